import Derived.Test.YtdnbgafbhifhoaaDoorBCreateTopicsRequest
import Derived.Test.YtdnbgafbhifhoaaDoorTB
import Derived.KernelRfl
set_option linter.unusedVariables false
set_option linter.unusedSimpArgs false
set_option maxRecDepth 100000
set_option maxHeartbeats 20000000
namespace Go.Sx
open Go.Proofs
def tl_CreateTopicsRequestTopicReplicaAssignment (T : Tr) : Tr := .mk 0 [] false [(.mk (IntKind.i32.wrap (T.at 0).n) [] false [] []), (.mk 0 [] (T.at 1).nul ((lT (T.at 1)).map (fun y : Tr => (Tr.mk (IntKind.i32.wrap y.n) [] false [] [] : Tr))) [])] T.u
theorem te_CreateTopicsRequestTopicReplicaAssignment {H : Fz} {L : Own} {b o : Nat} {cs : List Value} {T : Tr} (hb : H.at b o cs) (hA : At_CreateTopicsRequestTopicReplicaAssignment H T cs) (hf : Fits T) :
    Fn Tryd.prog 221 [.pointer (some ⟨b, o, none⟩)] H L (fun v H' L' => L = L' ∧ ∃ c : TC, v = .agg (c.cells (tl_CreateTopicsRequestTopicReplicaAssignment T)).toArray ∧ TreeAt H' c (tl_CreateTopicsRequestTopicReplicaAssignment T)) := by
  obtain ⟨a1, c1, mt, rfl, h1, h2⟩ := hA
  refine Fn.mk Tryd.call221 Tryd.func221 rfl Tryd.ntmps221 rfl ?_
  refine sr ?_
  refine al Tryd.zeroValue26 rfl rfl (fun b_1 => ?_)
  refine nl ?_
  refine sr ?_
  refine mkC (m := 2) (zs := [.int .i64 0, .slice none 0 0, .bool false, .slice none 0 0, .slice none 0 0]) Tryd.underlying23 I26 rfl rfl rfl rfl rfl rfl (by decide) (by unfold maxLen; omega) rfl (fun b_2 => ?_)
  refine bd' S26 rfl rfl rfl ?_
  refine al Tryd.zeroValue26 rfl rfl (fun b_3 => ?_)
  refine sa Tryd.sizeOf26 rfl rfl rfl rfl rfl .head ?_
  refine nl ?_
  refine sq ?_
  refine rgD 9 (.keep (.keep (.keep .nil))) mixed ?_
  refine dT 0 rfl rfl rfl (by kernel_rfl) (fun _ _ _ h => h) (y_fa0 F26_3 rfl) (.keep (.keep (.keep .nil))) (Fz.le.refl _) ?_
  refine dT 1 rfl rfl rfl (by kernel_rfl) (fun _ _ _ h => h) (y_ld (Says.own .head) Tryd.isAgg23 rfl (Nat.zero_add _).symm rfl) (.keep (.keep (.keep .nil))) (Fz.le.refl _) ?_
  refine dT 2 rfl rfl rfl (by kernel_rfl) (fun _ _ _ h => h) (y_mv rfl) (.keep (.keep (.keep .nil))) (Fz.le.refl _) ?_
  refine dT 3 rfl rfl rfl (by kernel_rfl) (fun _ _ _ h => h) (y_nc rfl) (.keep (.keep (.keep .nil))) (Fz.le.refl _) ?_
  refine dT 4 rfl rfl rfl (by kernel_rfl) (fun _ _ _ h => h) (y_fa F233_0 rfl) (.keep (.keep (.keep .nil))) (Fz.le.refl _) ?_
  refine dT 5 rfl rfl rfl (by kernel_rfl) (fun _ _ _ h => h) (y_ld (j := 0) (Says.fz hb) Tryd.isAgg21 rfl (Nat.add_zero _).symm rfl) (.keep (.keep (.keep .nil))) (Fz.le.refl _) ?_
  refine dT 6 rfl rfl rfl (by kernel_rfl) (fun _ _ _ h => h) (y_cv Tryd.runUnderlying21 Tryd.runUnderlying2 rfl (i32_64 _)) (.keep (.keep (.keep .nil))) (Fz.le.refl _) ?_
  refine dT 7 rfl rfl rfl (by kernel_rfl) (fun _ _ _ h => h) (y_bd S26 rfl rfl) (.keep (.keep (.keep .nil))) (Fz.le.refl _) ?_
  refine dT 8 rfl rfl rfl (by kernel_rfl) (fun _ _ _ h => h) (y_ix2 (j := 0) Tryd.runUnderlying23 Tryd.sizeOf26 rfl rfl rfl rfl (by decide)) (.keep (.keep (.keep .nil))) (Fz.le.refl _) ?_
  refine dE 9 (by kernel_rfl) rfl ?_
  refine sa Tryd.sizeOf26 rfl rfl rfl rfl rfl (.tail .head) ?_
  refine dNk (by kernel_rfl) ?_
  refine dD (by kernel_rfl) ?_
  refine Nt ?_
  refine sq ?_
  refine rgD 9 (.keep (.keep (.keep .nil))) mixed ?_
  refine dT 0 rfl rfl rfl (by kernel_rfl) (fun _ _ _ h => h) (y_fa0 F26_3 rfl) (.keep (.keep (.keep .nil))) (Fz.le.refl _) ?_
  refine dT 1 rfl rfl rfl (by kernel_rfl) (fun _ _ _ h => h) (y_ld (Says.own .head) Tryd.isAgg23 rfl (Nat.zero_add _).symm rfl) (.keep (.keep (.keep .nil))) (Fz.le.refl _) ?_
  refine dT 2 rfl rfl rfl (by kernel_rfl) (fun _ _ _ h => h) (y_mv rfl) (.keep (.keep (.keep .nil))) (Fz.le.refl _) ?_
  refine dT 3 rfl rfl rfl (by kernel_rfl) (fun _ _ _ h => h) (y_nc rfl) (.keep (.keep (.keep .nil))) (Fz.le.refl _) ?_
  refine dT 4 rfl rfl rfl (by kernel_rfl) (fun _ _ _ h => h) (y_fa F233_1 rfl) (.keep (.keep (.keep .nil))) (Fz.le.refl _) ?_
  refine dT 5 rfl rfl rfl (by kernel_rfl) (fun _ _ _ h => h) (y_ld (j := 1) (Says.fz hb) Tryd.isAgg189 rfl rfl rfl) (.keep (.keep (.keep .nil))) (Fz.le.refl _) ?_
  refine dT 6 rfl rfl rfl (by kernel_rfl) (fun _ _ _ h => h) (y_esn Tryd.underlying189 rfl) (.keep (.keep (.keep .nil))) (Fz.le.refl _) ?_
  refine dE 7 (by kernel_rfl) rfl ?_
  refine ixk (j := 1) Tryd.runUnderlying23 Tryd.sizeOf26 rfl rfl rfl rfl (by decide) rfl ?_
  refine dN (.keep (.keep (.keep .nil))) (Fz.le.refl _) ?_
  refine dT 8 rfl rfl rfl (by kernel_rfl) (fun _ _ _ h => h) (y_fa F26_2 rfl) (.keep (.keep (.keep .nil))) (Fz.le.refl _) ?_
  refine dE 9 (by kernel_rfl) rfl ?_
  refine st Tryd.sizeOf4 rfl rfl rfl rfl (.tail .head) ?_
  refine dNk (by kernel_rfl) ?_
  refine dD (by kernel_rfl) ?_
  refine Nt ?_
  refine sq ?_
  refine sr ?_
  refine mv rfl rfl ?_
  refine nc rfl rfl ?_
  refine fa F233_1 rfl rfl ?_
  refine ld (Says.fz hb) Tryd.isAgg189 rfl rfl rfl rfl ?_
  refine ls Tryd.runUnderlying189 rfl rfl ?_
  refine mv rfl rfl ?_
  refine nl ?_
  have hlm1 := (hf.at 1).lTl
  refine nulC2 ?_
  refine fr ((lT (T.at 1)).length) (fun k1 l' H' L' => ∃ (al1 : Option Addr), ∃ (ml1 : Nat), ∃ (cl1 : Nat), ∃ (es1 : List EE), ∃ (Nl1 : Chunk), [(0, .pointer (some ⟨b, o, none⟩)), (2, .pointer (some ⟨b_1, 0, none⟩)), (3, .pointer (some ⟨b_3, 0, none⟩)), (29, .int .i64 ((lT (T.at 1)).length : Int))] = l' ∧ Nl1 :: [(b_3, .cells [.int .i64 0, .slice none 0 0, .bool false, _, .slice none 0 0].toArray 26 (0, 0))] :: [(b_2, .cells [.int .i64 (IntKind.i32.wrap (T.at 0).n), .slice none 0 0, .bool false, .slice none 0 0, .slice none 0 0, .int .i64 0, .slice none 0 0, .bool a1.isNone, .slice al1 ml1 cl1, .slice none 0 0].toArray 26 (0, 0))] :: [(b_1, .cells [.int .i64 0, .slice none 0 0, .bool false, .slice none 0 0, .slice none 0 0].toArray 26 (0, 0))] :: L = L' ∧ Row 26 5 al1 ml1 cl1 (es1.flatMap f5) Nl1 ∧ ml1 = es1.length ∧ es1.map (·.2) = ((lT (T.at 1)).take k1).map (fun y : Tr => (Tr.mk (IntKind.i32.wrap y.n) [] false [] [] : Tr)) ∧ (∀ p : EE, p ∈ es1 → TreeAt H' p.1 p.2)) [(0, .pointer (some ⟨b, o, none⟩)), (2, .pointer (some ⟨b_1, 0, none⟩)), (3, .pointer (some ⟨b_3, 0, none⟩)), (29, .int .i64 ((lT (T.at 1)).length : Int))] (fun k1 l' H' L' h => ?_) (by omega) rfl (.cons rfl (.cons rfl (.cons rfl (.cons rfl (.nil _))))) ⟨none, 0, 0, [], [], rfl, rfl, (Row.nil _ _), rfl, (by simp), (fun p hp => by cases hp)⟩ rfl rfl rfl rfl rfl (fun k1 l' H' L' hk1 le_4 hI => ?_) (fun l' H' L' le_5 hI => ?_)
  · obtain ⟨al1, ml1, cl1, es1, Nl1, rfl, _⟩ := h; exact ⟨rfl, rfl, rfl, rfl⟩
  · skip
    obtain ⟨al1, ml1, cl1, es1, Nl1, rfl, rfl, pk10, pk11, pk12, pk13⟩ := hI
    refine sr ?_
    refine mv rfl rfl ?_
    refine asg rfl rfl ?_
    refine nl ?_
    refine sq ?_
    refine rgD 4 .nil mixed ?_
    refine dE 0 (by kernel_rfl) rfl ?_
    refine al Tryd.zeroValue4 rfl rfl (fun b_6 => ?_)
    refine dN .nil (Fz.le.refl _) ?_
    refine dE2 1 2 (by kernel_rfl) rfl rfl ?_ ?_
    · skip
      refine st Tryd.sizeOf4 rfl rfl rfl rfl .head ?_
      refine dN .nil (Fz.le.refl _) ?_
      refine dE 2 (by kernel_rfl) rfl ?_
      refine st Tryd.sizeOf4 rfl rfl rfl rfl .head ?_
      refine dN .nil (Fz.le.refl _) ?_
      refine dE 3 (by kernel_rfl) rfl ?_
      refine ld (Says.own .head) Tryd.isAgg4 rfl (Nat.zero_add _).symm rfl rfl ?_
      refine dN .nil (Fz.le.refl _) ?_
      refine dD (by kernel_rfl) ?_
      refine drN .head ?_
      refine Nt ?_
      refine cF rfl ?_
      refine rgD 20 (.skip (.keep (.keep (.keep .nil)))) mixed ?_
      refine dT 0 rfl rfl rfl (by kernel_rfl) (fun _ _ _ h => h) (y_fa0 F26_3 rfl) (.skip (.keep (.keep (.keep .nil)))) (Fz.le.refl _) ?_
      refine dT 1 rfl rfl rfl (by kernel_rfl) (fun _ _ _ h => h) (y_ld (Says.own .head) Tryd.isAgg23 rfl (Nat.zero_add _).symm rfl) (.skip (.keep (.keep (.keep .nil)))) (Fz.le.refl _) ?_
      refine dT 2 rfl rfl rfl (by kernel_rfl) (fun _ _ _ h => h) (y_fa0 F26_3 rfl) (.skip (.keep (.keep (.keep .nil)))) (Fz.le.refl _) ?_
      refine dT 3 rfl rfl rfl (by kernel_rfl) (fun _ _ _ h => h) (y_ld (Says.own .head) Tryd.isAgg23 rfl (Nat.zero_add _).symm rfl) (.skip (.keep (.keep (.keep .nil)))) (Fz.le.refl _) ?_
      refine dT 4 rfl rfl rfl (by kernel_rfl) (fun _ _ _ h => h) (y_ix2 (j := 1) Tryd.runUnderlying23 Tryd.sizeOf26 rfl rfl rfl rfl (by decide)) (.skip (.keep (.keep (.keep .nil)))) (Fz.le.refl _) ?_
      refine dT 5 rfl rfl rfl (by kernel_rfl) (fun _ _ _ h => h) (y_fa F26_3 rfl) (.skip (.keep (.keep (.keep .nil)))) (Fz.le.refl _) ?_
      refine dT 6 rfl rfl rfl (by kernel_rfl) (fun _ _ _ h => h) (y_ld (Says.own (.tail .head)) Tryd.isAgg23 rfl (Nat.zero_add _).symm rfl) (.skip (.keep (.keep (.keep .nil)))) (Fz.le.refl _) ?_
      refine dT 7 rfl rfl rfl (by kernel_rfl) (fun _ _ _ h => h) (y_mv rfl) (.skip (.keep (.keep (.keep .nil)))) (Fz.le.refl _) ?_
      refine dT 8 rfl rfl rfl (by kernel_rfl) (fun _ _ _ h => h) (y_nc rfl) (.skip (.keep (.keep (.keep .nil)))) (Fz.le.refl _) ?_
      refine dT 9 rfl rfl rfl (by kernel_rfl) (fun _ _ _ h => h) (y_fa F233_1 rfl) (.skip (.keep (.keep (.keep .nil)))) (Fz.le.refl _) ?_
      refine dT 10 rfl rfl rfl (by kernel_rfl) (fun _ _ _ h => h) (y_ld (j := 1) (Says.fz (hb.mono le_4)) Tryd.isAgg189 rfl rfl rfl) (.skip (.keep (.keep (.keep .nil)))) (Fz.le.refl _) ?_
      refine dT 11 rfl rfl rfl (by kernel_rfl) (fun _ _ _ h => h) (y_mv rfl) (.skip (.keep (.keep (.keep .nil)))) (Fz.le.refl _) ?_
      obtain ⟨beq_7, oeq_7, haq_7, hlq_7⟩ := ((h1.mono RI32.mono le_4)).rows.at_ (ne_nil_of_lt hk1)
      obtain ⟨ceq_7, hAq_7, hbq_7⟩ := hlq_7 k1 hk1
      obtain rfl : ceq_7 = [.int .i32 (IntKind.i32.wrap ((lT (T.at 1))[k1]).n)] := hAq_7
      refine dT 12 rfl rfl rfl (by kernel_rfl) (fun _ _ _ h => h) (y_ixk (j := k1) Tryd.runUnderlying189 Tryd.sizeOf21 rfl haq_7 rfl rfl hk1) (.skip (.keep (.keep (.keep .nil)))) (Fz.le.refl _) ?_
      refine dT 13 rfl rfl rfl (by kernel_rfl) (fun _ _ _ h => h) (y_ld (Says.fz hbq_7) Tryd.isAgg21 rfl (Nat.add_zero _).symm rfl) (.skip (.keep (.keep (.keep .nil)))) (Fz.le.refl _) ?_
      refine dT 14 rfl rfl rfl (by kernel_rfl) (fun _ _ _ h => h) (y_cv Tryd.runUnderlying21 Tryd.runUnderlying2 rfl (i32_64 _)) (.skip (.keep (.keep (.keep .nil)))) (Fz.le.refl _) ?_
      refine dT 15 rfl rfl rfl (by kernel_rfl) (fun _ _ _ h => h) (y_bd S26 rfl rfl) (.skip (.keep (.keep (.keep .nil)))) (Fz.le.refl _) ?_
      refine dE 16 (by kernel_rfl) rfl ?_
      refine bs' L23 rfl rfl rfl rfl (fun b_8 => ?_)
      refine dN (.skip (.skip (.keep (.keep (.keep .nil))))) (Fz.le.refl _) ?_
      refine dE 17 (by kernel_rfl) rfl ?_
      have hmk : ml1 = k1 := by have h1 := congrArg List.length pk12; rw [List.length_map, List.length_map, List.length_take] at h1; omega
      have hmb := (hf.at 1).lTl
      refine ap (k := 1) (news := f5 (((TC.none : TC), (Tr.mk (IntKind.i32.wrap ((lT (T.at 1))[k1]).n) [] false [] [] : Tr)) : EE)) Tryd.underlying23 I26 rfl rfl pk10 (fun _ => (.tail .head)) (src_says Tryd.underlying23 rfl (fun _ => Says.own .head) (f5_one _)) (by omega) (by unfold maxLen; omega) rfl (fun a72 c72 N72 r72 z72 => ?_)
      rw [flatMap_snoc'] at r72
      refine dN (.skip (.skip (.keep (.keep (.keep .nil))))) (Fz.le.refl _) ?_
      refine dE 18 (by kernel_rfl) rfl ?_
      refine ixk (j := 1) Tryd.runUnderlying23 Tryd.sizeOf26 rfl rfl rfl rfl (by decide) rfl ?_
      refine dN (.skip (.skip (.keep (.keep (.keep .nil))))) (Fz.le.refl _) ?_
      refine dT 19 rfl rfl rfl (by kernel_rfl) (fun _ _ _ h => h) (y_fa F26_3 rfl) (.skip (.skip (.keep (.keep (.keep .nil))))) (Fz.le.refl _) ?_
      refine dE 20 (by kernel_rfl) rfl ?_
      refine st Tryd.sizeOf23 rfl rfl rfl rfl (.tail (.tail (.tail .head))) ?_
      refine dNk (by kernel_rfl) ?_
      refine dD (by kernel_rfl) ?_
      refine Nb ?_
      refine drN .head ?_
      refine fun a_ w_ hA hw => ⟨_, _, _, hA.sub ?_, le_4, hw, _, rfl, a72, (ml1 + 1), c72, (es1 ++ [(((TC.none : TC), (Tr.mk (IntKind.i32.wrap ((lT (T.at 1))[k1]).n) [] false [] [] : Tr)) : EE)]), N72, rfl, rfl, r72, (by simp; omega), (map_take_snoc (g := (fun y : Tr => (Tr.mk (IntKind.i32.wrap y.n) [] false [] [] : Tr))) hk1 pk12), (fun p hp => (mem_snoc hp).elim (fun h => (pk13 p h).mono (Fz.le.refl _)) (fun h => h ▸ (.of (.nil _) (.nil _) (.nil _))))⟩
      exact (.cons rfl (.cons rfl (.cons rfl (.cons rfl (.cons rfl (.nil _))))))
    · skip
      refine st Tryd.sizeOf4 rfl rfl rfl rfl .head ?_
      refine dN .nil (Fz.le.refl _) ?_
      refine dE 1 (by kernel_rfl) rfl ?_
      refine st Tryd.sizeOf4 rfl rfl rfl rfl .head ?_
      refine dN .nil (Fz.le.refl _) ?_
      refine dE 3 (by kernel_rfl) rfl ?_
      refine ld (Says.own .head) Tryd.isAgg4 rfl (Nat.zero_add _).symm rfl rfl ?_
      refine dN .nil (Fz.le.refl _) ?_
      refine dD (by kernel_rfl) ?_
      refine drN .head ?_
      refine Nt ?_
      refine cT rfl ?_
      refine sq ?_
      refine rgD 19 (.skip (.keep (.keep (.keep .nil)))) mixed ?_
      refine dT 0 rfl rfl rfl (by kernel_rfl) (fun _ _ _ h => h) (y_fa0 F26_3 rfl) (.skip (.keep (.keep (.keep .nil)))) (Fz.le.refl _) ?_
      refine dT 1 rfl rfl rfl (by kernel_rfl) (fun _ _ _ h => h) (y_ld (Says.own .head) Tryd.isAgg23 rfl (Nat.zero_add _).symm rfl) (.skip (.keep (.keep (.keep .nil)))) (Fz.le.refl _) ?_
      refine dT 2 rfl rfl rfl (by kernel_rfl) (fun _ _ _ h => h) (y_ix2 (j := 1) Tryd.runUnderlying23 Tryd.sizeOf26 rfl rfl rfl rfl (by decide)) (.skip (.keep (.keep (.keep .nil)))) (Fz.le.refl _) ?_
      refine dT 3 rfl rfl rfl (by kernel_rfl) (fun _ _ _ h => h) (y_fa F26_3 rfl) (.skip (.keep (.keep (.keep .nil)))) (Fz.le.refl _) ?_
      refine dT 4 rfl rfl rfl (by kernel_rfl) (fun _ _ _ h => h) (y_ld (Says.own (.tail .head)) Tryd.isAgg23 rfl (Nat.zero_add _).symm rfl) (.skip (.keep (.keep (.keep .nil)))) (Fz.le.refl _) ?_
      refine dT 5 rfl rfl rfl (by kernel_rfl) (fun _ _ _ h => h) (y_mv rfl) (.skip (.keep (.keep (.keep .nil)))) (Fz.le.refl _) ?_
      refine dT 6 rfl rfl rfl (by kernel_rfl) (fun _ _ _ h => h) (y_nc rfl) (.skip (.keep (.keep (.keep .nil)))) (Fz.le.refl _) ?_
      refine dT 7 rfl rfl rfl (by kernel_rfl) (fun _ _ _ h => h) (y_fa F233_1 rfl) (.skip (.keep (.keep (.keep .nil)))) (Fz.le.refl _) ?_
      refine dT 8 rfl rfl rfl (by kernel_rfl) (fun _ _ _ h => h) (y_ld (j := 1) (Says.fz (hb.mono le_4)) Tryd.isAgg189 rfl rfl rfl) (.skip (.keep (.keep (.keep .nil)))) (Fz.le.refl _) ?_
      refine dT 9 rfl rfl rfl (by kernel_rfl) (fun _ _ _ h => h) (y_mv rfl) (.skip (.keep (.keep (.keep .nil)))) (Fz.le.refl _) ?_
      obtain ⟨beq_9, oeq_9, haq_9, hlq_9⟩ := ((h1.mono RI32.mono le_4)).rows.at_ (ne_nil_of_lt hk1)
      obtain ⟨ceq_9, hAq_9, hbq_9⟩ := hlq_9 k1 hk1
      obtain rfl : ceq_9 = [.int .i32 (IntKind.i32.wrap ((lT (T.at 1))[k1]).n)] := hAq_9
      refine dT 10 rfl rfl rfl (by kernel_rfl) (fun _ _ _ h => h) (y_ixk (j := k1) Tryd.runUnderlying189 Tryd.sizeOf21 rfl haq_9 rfl rfl hk1) (.skip (.keep (.keep (.keep .nil)))) (Fz.le.refl _) ?_
      refine dT 11 rfl rfl rfl (by kernel_rfl) (fun _ _ _ h => h) (y_ld (Says.fz hbq_9) Tryd.isAgg21 rfl (Nat.add_zero _).symm rfl) (.skip (.keep (.keep (.keep .nil)))) (Fz.le.refl _) ?_
      refine dT 12 rfl rfl rfl (by kernel_rfl) (fun _ _ _ h => h) (y_cv Tryd.runUnderlying21 Tryd.runUnderlying2 rfl (i32_64 _)) (.skip (.keep (.keep (.keep .nil)))) (Fz.le.refl _) ?_
      refine dT 13 rfl rfl rfl (by kernel_rfl) (fun _ _ _ h => h) (y_bd S26 rfl rfl) (.skip (.keep (.keep (.keep .nil)))) (Fz.le.refl _) ?_
      refine dT 14 rfl rfl rfl (by kernel_rfl) (fun _ _ _ h => h) (y_ls Tryd.runUnderlying23 rfl) (.skip (.keep (.keep (.keep .nil)))) (Fz.le.refl _) ?_
      refine dE 15 (by kernel_rfl) rfl ?_
      refine bs' L23 rfl rfl rfl rfl (fun b_10 => ?_)
      refine dN (.skip (.skip (.keep (.keep (.keep .nil))))) (Fz.le.refl _) ?_
      refine dE 16 (by kernel_rfl) rfl ?_
      have hmk : ml1 = k1 := by have h1 := congrArg List.length pk12; rw [List.length_map, List.length_map, List.length_take] at h1; omega
      have hmb := (hf.at 1).lTl
      refine ap (k := 1) (news := f5 ((TC.none, Tr.none) : EE)) Tryd.underlying23 I26 rfl rfl pk10 (fun _ => (.tail .head)) (src_says Tryd.underlying23 rfl (fun _ => Says.own .head) (f5_one _)) (by omega) (by unfold maxLen; omega) rfl (fun a51 c51 N51 r51 z51 => ?_)
      refine dN (.skip (.skip (.keep (.keep (.keep .nil))))) (Fz.le.refl _) ?_
      refine dE 17 (by kernel_rfl) rfl ?_
      refine ixk (j := 1) Tryd.runUnderlying23 Tryd.sizeOf26 rfl rfl rfl rfl (by decide) rfl ?_
      refine dN (.skip (.skip (.keep (.keep (.keep .nil))))) (Fz.le.refl _) ?_
      refine dT 18 rfl rfl rfl (by kernel_rfl) (fun _ _ _ h => h) (y_fa F26_3 rfl) (.skip (.skip (.keep (.keep (.keep .nil))))) (Fz.le.refl _) ?_
      refine dE 19 (by kernel_rfl) rfl ?_
      refine st Tryd.sizeOf23 rfl rfl rfl rfl (.tail (.tail (.tail .head))) ?_
      refine dNk (by kernel_rfl) ?_
      refine dD (by kernel_rfl) ?_
      refine Nt ?_
      refine rg ?_
      obtain ⟨gg51, hgg51⟩ := r51.addr (by omega)
      refine ixk (j := ml1) Tryd.runUnderlying23 Tryd.sizeOf26 rfl hgg51 rfl rfl (by omega) rfl ?_
      refine sR (ds := f5 (((TC.none : TC), (Tr.mk (IntKind.i32.wrap ((lT (T.at 1))[k1]).n) [] false [] [] : Tr)) : EE)) r51 hgg51 (fun _ => (.tail .head)) Tryd.sizeOf26 rfl rfl rfl rfl (by omega) (fun N51b r51b => ?_)
      rw [row_put (k := 5) (m := ml1) (A := es1.flatMap f5) (by rw [flatMap_len f5 5 f5_len, pk11]) rfl, flatMap_snoc'] at r51b
      refine nN ?_
      refine Nb ?_
      refine drN .head ?_
      refine fun a_ w_ hA hw => ⟨_, _, _, hA.sub ?_, le_4, hw, _, rfl, a51, (ml1 + 1), c51, (es1 ++ [(((TC.none : TC), (Tr.mk (IntKind.i32.wrap ((lT (T.at 1))[k1]).n) [] false [] [] : Tr)) : EE)]), N51b, rfl, rfl, r51b, (by simp; omega), (map_take_snoc (g := (fun y : Tr => (Tr.mk (IntKind.i32.wrap y.n) [] false [] [] : Tr))) hk1 pk12), (fun p hp => (mem_snoc hp).elim (fun h => (pk13 p h).mono (Fz.le.refl _)) (fun h => h ▸ (.of (.nil _) (.nil _) (.nil _))))⟩
      exact (.cons rfl (.cons rfl (.cons rfl (.cons rfl (.cons rfl (.nil _))))))
  · skip
    obtain ⟨al1, ml1, cl1, es1, Nl1, rfl, rfl, pk10, pk11, pk12, pk13⟩ := hI
    refine toWp ?_
    have hes1 : es1.map (·.2) = (lT (T.at 1)).map (fun y : Tr => (Tr.mk (IntKind.i32.wrap y.n) [] false [] [] : Tr)) := by rw [pk12, List.take_length]
    have hm1 : ml1 = ((lT (T.at 1)).map (fun y : Tr => (Tr.mk (IntKind.i32.wrap y.n) [] false [] [] : Tr))).length := by rw [← hes1, List.length_map]; exact pk11
    refine frW pk10 .head (fun Hl1 hll1 hzl1 => ?_)
    have ht1 := TreesAt.row hzl1 pk11 pk10.le.1 (by have h1 := congrArg List.length hes1; rw [List.length_map, List.length_map] at h1; unfold B47; omega) (fun p hp => (pk13 p hp).mono hll1)
    rw [hes1] at ht1
    subst hm1
    refine sr ?_
    refine mv rfl rfl ?_
    refine nc rfl rfl ?_
    refine fa F233_2 rfl rfl ?_
    refine mkf rfl rfl ?_
    obtain ⟨kvs, hM, hlen, hel⟩ := (h2.mono (le_5.trans hll1))
    have hfu := hf.u
    refine cl rfl rfl rfl (t_each (j := 2) (I := fun i H1 Y => TgI 61 b_3 26 (.int .i64 0) (.slice none 0 0) (.bool false) (_) T.u i H1 Y) (hb.mono (le_5.trans hll1)) rfl hM (by omega) (fun i H1 H2 Y hle h => h.mono hle) TgI.start (fun i k v H1 Y L1 hi hle hI => ?_)) rfl (fun v_ H1 L1 le_12 hR_ => ?_)
    · obtain ⟨s, h1, ⟨va, vc, rfl, hx⟩, h2, h3⟩ := hel i k v hi
      have hik := sortKv_lt hi
      exact TgI.step (fun {_ _ _ _ _ _ _ _ _ _ _ _ _ _ _ _} => tc_251) hf.v (by omega) h1 (hx.mono hle) h2 h3 hI
    rw [hlen] at hR_
    obtain ⟨_, rfl, aU, cU, NU, esU, rfl, hrU, heU, hgU⟩ := hR_
    refine splL ?_
    rw [List.take_length] at heU
    refine frL hrU (.tail .head) (fun HU hleU hzU => ?_)
    have hU := (TagsAt.told hzU hrU heU hfu (fun p hp => (hgU p hp).mono hleU)).1
    refine nl ?_
    refine sr ?_
    refine fa0 F26_4 rfl rfl ?_
    refine ld (Says.own .head) Tryd.isAgg24 rfl (Nat.zero_add _).symm rfl rfl ?_
    refine cl rfl rfl rfl (k_sorted hU (h2.mono (le_5.trans (hll1.trans (le_12.trans hleU)))).rise) rfl (fun v_ H1 L1 hle_ hR_ => ?_)
    obtain ⟨rfl, rfl⟩ := hR_
    refine nl ?_
    refine sr ?_
    refine la (Says.own .head) Tryd.isAgg26 Tryd.sizeOf26 rfl (Nat.zero_add _).symm rfl rfl ?_
    refine sa Tryd.sizeOf26 rfl rfl rfl rfl rfl (.tail (.tail .head)) ?_
    refine nl ?_
    refine drW .head ?_
    refine frW (Row.whole (e := 26) (size := 5) (m := 2) (ds := [.int .i64 (IntKind.i32.wrap (T.at 0).n), .slice none 0 0, .bool false, .slice none 0 0, .slice none 0 0, .int .i64 0, .slice none 0 0, .bool a1.isNone, .slice al1 ((lT (T.at 1)).map (fun y : Tr => (Tr.mk (IntKind.i32.wrap y.n) [] false [] [] : Tr))).length cl1, .slice none 0 0]) rfl (by unfold maxLen; omega)) .head (fun H9 hle9 hz9 => ?_)
    have hrb : H9.at b_2 0 [.int .i64 (IntKind.i32.wrap (T.at 0).n), .slice none 0 0, .bool false, .slice none 0 0, .slice none 0 0, .int .i64 0, .slice none 0 0, .bool a1.isNone, .slice al1 ((lT (T.at 1)).map (fun y : Tr => (Tr.mk (IntKind.i32.wrap y.n) [] false [] [] : Tr))).length cl1, .slice none 0 0] := by
      rcases hz9 with ⟨h, _⟩ | ⟨g, h, h2⟩
      · cases h
      · cases h; exact h2
    rw [(h1).nul] at hrb
    have hrb2 : H9.at b_2 0 (([((TC.none : TC), (Tr.mk (IntKind.i32.wrap (T.at 0).n) [] false [] [] : Tr)), ((⟨none, 0, al1, cl1, none, 0⟩ : TC), (Tr.mk 0 [] (T.at 1).nul ((lT (T.at 1)).map (fun y : Tr => (Tr.mk (IntKind.i32.wrap y.n) [] false [] [] : Tr))) [] : Tr))] : List EE).flatMap fun p => p.1.cells p.2) := by exact hrb
    have hl9 : TreesAt H9 (some ⟨b_2, 0, none⟩) 2 [(.mk (IntKind.i32.wrap (T.at 0).n) [] false [] []), (.mk 0 [] (T.at 1).nul ((lT (T.at 1)).map (fun y : Tr => (Tr.mk (IntKind.i32.wrap y.n) [] false [] [] : Tr))) [])] := by
      refine TreesAt.row (es := [((TC.none : TC), (Tr.mk (IntKind.i32.wrap (T.at 0).n) [] false [] [] : Tr)), ((⟨none, 0, al1, cl1, none, 0⟩ : TC), (Tr.mk 0 [] (T.at 1).nul ((lT (T.at 1)).map (fun y : Tr => (Tr.mk (IntKind.i32.wrap y.n) [] false [] [] : Tr))) [] : Tr))]) (.inr ⟨_, rfl, hrb2⟩) rfl (Nat.le_refl _) (Nat.le_of_ble_eq_true rfl) ?_
      intro p hp
      simp only [List.mem_cons, List.not_mem_nil, or_false] at hp
      rcases hp with rfl | rfl
      · exact (.of (.nil _) (.nil _) (.nil _))
      · exact (.of (.nil _) (ht1.mono (le_12.trans (hleU.trans hle9))) (.nil _))
    exact rC rfl Tryd.isAgg26 Tryd.sizeOf26 rfl .head rfl (le_5.trans (hll1.trans (le_12.trans (hleU.trans hle9)))) (fun _ _ h => h) ⟨rfl, ⟨none, 0, some ⟨b_2, 0, none⟩, 2, aU, cU⟩, rfl, .of (.nil _) hl9 (hU.mono hle9)⟩
def tl_CreateTopicsRequestTopicConfig (T : Tr) : Tr := .mk 0 [] false [(.mk 0 (T.at 0).s false [] []), (.mk 0 (sT (T.at 1)) (T.at 1).nul [] [])] T.u
theorem te_CreateTopicsRequestTopicConfig {H : Fz} {L : Own} {b o : Nat} {cs : List Value} {T : Tr} (hb : H.at b o cs) (hA : At_CreateTopicsRequestTopicConfig H T cs) (hf : Fits T) :
    Fn Tryd.prog 222 [.pointer (some ⟨b, o, none⟩)] H L (fun v H' L' => L = L' ∧ ∃ c : TC, v = .agg (c.cells (tl_CreateTopicsRequestTopicConfig T)).toArray ∧ TreeAt H' c (tl_CreateTopicsRequestTopicConfig T)) := by
  obtain ⟨p1, mt, rfl, h1, h2⟩ := hA
  refine Fn.mk Tryd.call222 Tryd.func222 rfl Tryd.ntmps222 rfl ?_
  refine sr ?_
  refine al Tryd.zeroValue26 rfl rfl (fun b_1 => ?_)
  refine nl ?_
  refine sr ?_
  refine mkC (m := 2) (zs := [.int .i64 0, .slice none 0 0, .bool false, .slice none 0 0, .slice none 0 0]) Tryd.underlying23 I26 rfl rfl rfl rfl rfl rfl (by decide) (by unfold maxLen; omega) rfl (fun b_2 => ?_)
  refine bd' S26 rfl rfl rfl ?_
  refine al Tryd.zeroValue26 rfl rfl (fun b_3 => ?_)
  refine sa Tryd.sizeOf26 rfl rfl rfl rfl rfl .head ?_
  refine nl ?_
  refine sq ?_
  refine rgD 9 (.keep (.keep (.keep .nil))) mixed ?_
  refine dT 0 rfl rfl rfl (by kernel_rfl) (fun _ _ _ h => h) (y_fa0 F26_3 rfl) (.keep (.keep (.keep .nil))) (Fz.le.refl _) ?_
  refine dT 1 rfl rfl rfl (by kernel_rfl) (fun _ _ _ h => h) (y_ld (Says.own .head) Tryd.isAgg23 rfl (Nat.zero_add _).symm rfl) (.keep (.keep (.keep .nil))) (Fz.le.refl _) ?_
  refine dT 2 rfl rfl rfl (by kernel_rfl) (fun _ _ _ h => h) (y_mv rfl) (.keep (.keep (.keep .nil))) (Fz.le.refl _) ?_
  refine dT 3 rfl rfl rfl (by kernel_rfl) (fun _ _ _ h => h) (y_nc rfl) (.keep (.keep (.keep .nil))) (Fz.le.refl _) ?_
  refine dT 4 rfl rfl rfl (by kernel_rfl) (fun _ _ _ h => h) (y_fa F236_0 rfl) (.keep (.keep (.keep .nil))) (Fz.le.refl _) ?_
  refine dT 5 rfl rfl rfl (by kernel_rfl) (fun _ _ _ h => h) (y_ld (j := 0) (Says.fz hb) Tryd.isAgg9 rfl (Nat.add_zero _).symm rfl) (.keep (.keep (.keep .nil))) (Fz.le.refl _) ?_
  refine dE 6 (by kernel_rfl) rfl ?_
  refine csb Tryd.underlying9 Tryd.underlying22 Tryd.underlying5 rfl (by have := (hf.at 0).s; unfold B47; omega) rfl (fun Hb12 b12 cp12 le_4 hb12 => ?_)
  refine dN (.keep (.keep (.keep .nil))) le_4 ?_
  refine dT 7 rfl rfl rfl (by kernel_rfl) (fun _ _ _ h => h) (y_bd S26 rfl rfl) (.keep (.keep (.keep .nil))) le_4 ?_
  refine dT 8 rfl rfl rfl (by kernel_rfl) (fun _ _ _ h => h) (y_ix2 (j := 0) Tryd.runUnderlying23 Tryd.sizeOf26 rfl rfl rfl rfl (by decide)) (.keep (.keep (.keep .nil))) le_4 ?_
  refine dE 9 (by kernel_rfl) rfl ?_
  refine sa Tryd.sizeOf26 rfl rfl rfl rfl rfl (.tail .head) ?_
  refine dNk (by kernel_rfl) ?_
  refine dD (by kernel_rfl) ?_
  refine Nt ?_
  refine sq ?_
  refine rgD 8 (.keep (.keep (.keep .nil))) mixed ?_
  refine dT 0 rfl rfl rfl (by kernel_rfl) (fun _ _ _ h => h) (y_fa0 F26_3 rfl) (.keep (.keep (.keep .nil))) (Fz.le.refl _) ?_
  refine dT 1 rfl rfl rfl (by kernel_rfl) (fun _ _ _ h => h) (y_ld (Says.own .head) Tryd.isAgg23 rfl (Nat.zero_add _).symm rfl) (.keep (.keep (.keep .nil))) (Fz.le.refl _) ?_
  refine dT 2 rfl rfl rfl (by kernel_rfl) (fun _ _ _ h => h) (y_mv rfl) (.keep (.keep (.keep .nil))) (Fz.le.refl _) ?_
  refine dT 3 rfl rfl rfl (by kernel_rfl) (fun _ _ _ h => h) (y_nc rfl) (.keep (.keep (.keep .nil))) (Fz.le.refl _) ?_
  refine dT 4 rfl rfl rfl (by kernel_rfl) (fun _ _ _ h => h) (y_fa F236_1 rfl) (.keep (.keep (.keep .nil))) (Fz.le.refl _) ?_
  refine dT 5 rfl rfl rfl (by kernel_rfl) (fun _ _ _ h => h) (y_ld (j := 1) (Says.fz (hb.mono le_4)) Tryd.isAgg104 rfl rfl rfl) (.keep (.keep (.keep .nil))) (Fz.le.refl _) ?_
  refine dE 6 (by kernel_rfl) rfl ?_
  refine cl rfl rfl rfl (k_textTree (h1.mono le_4) (hf.at 1)) rfl (fun v_ H1 L1 le_5 hR_ => ?_)
  obtain ⟨rfl, ct21, rfl, hT21⟩ := hR_
  refine dN (.keep (.keep (.keep .nil))) le_5 ?_
  refine dT 7 rfl rfl rfl (by kernel_rfl) (fun _ _ _ h => h) (y_ix2 (j := 1) Tryd.runUnderlying23 Tryd.sizeOf26 rfl rfl rfl rfl (by decide)) (.keep (.keep (.keep .nil))) le_5 ?_
  refine dE 8 (by kernel_rfl) rfl ?_
  refine sa Tryd.sizeOf26 rfl rfl rfl rfl rfl (.tail .head) ?_
  refine dNk (by kernel_rfl) ?_
  refine dD (by kernel_rfl) ?_
  refine Nt ?_
  refine sr ?_
  refine mv rfl rfl ?_
  refine nc rfl rfl ?_
  refine fa F236_2 rfl rfl ?_
  refine mkf rfl rfl ?_
  obtain ⟨kvs, hM, hlen, hel⟩ := (h2.mono (le_4.trans le_5))
  have hfu := hf.u
  refine cl rfl rfl rfl (t_each (j := 2) (I := fun i H1 Y => TgI 61 b_3 26 (.int .i64 0) (.slice none 0 0) (.bool false) (_) T.u i H1 Y) (hb.mono (le_4.trans le_5)) rfl hM (by omega) (fun i H1 H2 Y hle h => h.mono hle) TgI.start (fun i k v H1 Y L1 hi hle hI => ?_)) rfl (fun v_ H1 L1 le_7 hR_ => ?_)
  · obtain ⟨s, h1, ⟨va, vc, rfl, hx⟩, h2, h3⟩ := hel i k v hi
    have hik := sortKv_lt hi
    exact TgI.step (fun {_ _ _ _ _ _ _ _ _ _ _ _ _ _ _ _} => tc_252) hf.v (by omega) h1 (hx.mono hle) h2 h3 hI
  rw [hlen] at hR_
  obtain ⟨_, rfl, aU, cU, NU, esU, rfl, hrU, heU, hgU⟩ := hR_
  refine splL ?_
  rw [List.take_length] at heU
  refine frL hrU (.tail .head) (fun HU hleU hzU => ?_)
  have hU := (TagsAt.told hzU hrU heU hfu (fun p hp => (hgU p hp).mono hleU)).1
  refine nl ?_
  refine sr ?_
  refine fa0 F26_4 rfl rfl ?_
  refine ld (Says.own .head) Tryd.isAgg24 rfl (Nat.zero_add _).symm rfl rfl ?_
  refine cl rfl rfl rfl (k_sorted hU (h2.mono (le_4.trans (le_5.trans (le_7.trans hleU)))).rise) rfl (fun v_ H1 L1 hle_ hR_ => ?_)
  obtain ⟨rfl, rfl⟩ := hR_
  refine nl ?_
  refine sr ?_
  refine la (Says.own .head) Tryd.isAgg26 Tryd.sizeOf26 rfl (Nat.zero_add _).symm rfl rfl ?_
  refine sa Tryd.sizeOf26 rfl rfl rfl rfl rfl (.tail (.tail .head)) ?_
  refine nl ?_
  refine drW .head ?_
  refine frW (Row.whole (e := 26) (size := 5) (m := 2) (ds := [.int .i64 0, .slice (some ⟨b12, 0, none⟩) (T.at 0).s.length cp12, .bool false, .slice none 0 0, .slice none 0 0, .int .i64 0, .slice ct21.sa (sT (T.at 1)).length ct21.sc, .bool (T.at 1).nul, .slice ct21.la 0 ct21.lc, .slice ct21.ua 0 ct21.uc]) rfl (by unfold maxLen; omega)) .head (fun H9 hle9 hz9 => ?_)
  have hrb : H9.at b_2 0 [.int .i64 0, .slice (some ⟨b12, 0, none⟩) (T.at 0).s.length cp12, .bool false, .slice none 0 0, .slice none 0 0, .int .i64 0, .slice ct21.sa (sT (T.at 1)).length ct21.sc, .bool (T.at 1).nul, .slice ct21.la 0 ct21.lc, .slice ct21.ua 0 ct21.uc] := by
    rcases hz9 with ⟨h, _⟩ | ⟨g, h, h2⟩
    · cases h
    · cases h; exact h2
  have hrb2 : H9.at b_2 0 (([((⟨some ⟨b12, 0, none⟩, cp12, none, 0, none, 0⟩ : TC), (Tr.mk 0 (T.at 0).s false [] [] : Tr)), ((ct21 : TC), (Tr.mk 0 (sT (T.at 1)) (T.at 1).nul [] [] : Tr))] : List EE).flatMap fun p => p.1.cells p.2) := by exact hrb
  have hl9 : TreesAt H9 (some ⟨b_2, 0, none⟩) 2 [(.mk 0 (T.at 0).s false [] []), (.mk 0 (sT (T.at 1)) (T.at 1).nul [] [])] := by
    refine TreesAt.row (es := [((⟨some ⟨b12, 0, none⟩, cp12, none, 0, none, 0⟩ : TC), (Tr.mk 0 (T.at 0).s false [] [] : Tr)), ((ct21 : TC), (Tr.mk 0 (sT (T.at 1)) (T.at 1).nul [] [] : Tr))]) (.inr ⟨_, rfl, hrb2⟩) rfl (Nat.le_refl _) (Nat.le_of_ble_eq_true rfl) ?_
    intro p hp
    simp only [List.mem_cons, List.not_mem_nil, or_false] at hp
    rcases hp with rfl | rfl
    · exact (.of (hb12.mono (le_5.trans (le_7.trans (hleU.trans hle9)))) (.nil _) (.nil _))
    · exact (hT21.mono (le_7.trans (hleU.trans hle9)))
  exact rC rfl Tryd.isAgg26 Tryd.sizeOf26 rfl .head rfl (le_4.trans (le_5.trans (le_7.trans (hleU.trans hle9)))) (fun _ _ h => h) ⟨rfl, ⟨none, 0, some ⟨b_2, 0, none⟩, 2, aU, cU⟩, rfl, .of (.nil _) hl9 (hU.mono hle9)⟩
def tl_CreateTopicsRequestTopic (T : Tr) : Tr := .mk 0 [] false [(.mk 0 (T.at 0).s false [] []), (.mk (IntKind.i32.wrap (T.at 1).n) [] false [] []), (.mk (IntKind.i16.wrap (T.at 2).n) [] false [] []), (.mk 0 [] (T.at 3).nul ((lT (T.at 3)).map tl_CreateTopicsRequestTopicReplicaAssignment) []), (.mk 0 [] (T.at 4).nul ((lT (T.at 4)).map tl_CreateTopicsRequestTopicConfig) [])] T.u
theorem te_CreateTopicsRequestTopic {H : Fz} {L : Own} {b o : Nat} {cs : List Value} {T : Tr} (hb : H.at b o cs) (hA : At_CreateTopicsRequestTopic H T cs) (hf : Fits T) :
    Fn Tryd.prog 158 [.pointer (some ⟨b, o, none⟩)] H L (fun v H' L' => L = L' ∧ ∃ c : TC, v = .agg (c.cells (tl_CreateTopicsRequestTopic T)).toArray ∧ TreeAt H' c (tl_CreateTopicsRequestTopic T)) := by
  obtain ⟨a3, c3, a4, c4, mt, rfl, h1, h2, h3⟩ := hA
  refine Fn.mk Tryd.call158 Tryd.func158 rfl Tryd.ntmps158 rfl ?_
  refine sr ?_
  refine al Tryd.zeroValue26 rfl rfl (fun b_1 => ?_)
  refine nl ?_
  refine sr ?_
  refine mkC (m := 5) (zs := [.int .i64 0, .slice none 0 0, .bool false, .slice none 0 0, .slice none 0 0]) Tryd.underlying23 I26 rfl rfl rfl rfl rfl rfl (by decide) (by unfold maxLen; omega) rfl (fun b_2 => ?_)
  refine bd' S26 rfl rfl rfl ?_
  refine al Tryd.zeroValue26 rfl rfl (fun b_3 => ?_)
  refine sa Tryd.sizeOf26 rfl rfl rfl rfl rfl .head ?_
  refine nl ?_
  refine sq ?_
  refine rgD 9 (.keep (.keep (.keep .nil))) mixed ?_
  refine dT 0 rfl rfl rfl (by kernel_rfl) (fun _ _ _ h => h) (y_fa0 F26_3 rfl) (.keep (.keep (.keep .nil))) (Fz.le.refl _) ?_
  refine dT 1 rfl rfl rfl (by kernel_rfl) (fun _ _ _ h => h) (y_ld (Says.own .head) Tryd.isAgg23 rfl (Nat.zero_add _).symm rfl) (.keep (.keep (.keep .nil))) (Fz.le.refl _) ?_
  refine dT 2 rfl rfl rfl (by kernel_rfl) (fun _ _ _ h => h) (y_mv rfl) (.keep (.keep (.keep .nil))) (Fz.le.refl _) ?_
  refine dT 3 rfl rfl rfl (by kernel_rfl) (fun _ _ _ h => h) (y_nc rfl) (.keep (.keep (.keep .nil))) (Fz.le.refl _) ?_
  refine dT 4 rfl rfl rfl (by kernel_rfl) (fun _ _ _ h => h) (y_fa F176_0 rfl) (.keep (.keep (.keep .nil))) (Fz.le.refl _) ?_
  refine dT 5 rfl rfl rfl (by kernel_rfl) (fun _ _ _ h => h) (y_ld (j := 0) (Says.fz hb) Tryd.isAgg9 rfl (Nat.add_zero _).symm rfl) (.keep (.keep (.keep .nil))) (Fz.le.refl _) ?_
  refine dE 6 (by kernel_rfl) rfl ?_
  refine csb Tryd.underlying9 Tryd.underlying22 Tryd.underlying5 rfl (by have := (hf.at 0).s; unfold B47; omega) rfl (fun Hb14 b14 cp14 le_4 hb14 => ?_)
  refine dN (.keep (.keep (.keep .nil))) le_4 ?_
  refine dT 7 rfl rfl rfl (by kernel_rfl) (fun _ _ _ h => h) (y_bd S26 rfl rfl) (.keep (.keep (.keep .nil))) le_4 ?_
  refine dT 8 rfl rfl rfl (by kernel_rfl) (fun _ _ _ h => h) (y_ix2 (j := 0) Tryd.runUnderlying23 Tryd.sizeOf26 rfl rfl rfl rfl (by decide)) (.keep (.keep (.keep .nil))) le_4 ?_
  refine dE 9 (by kernel_rfl) rfl ?_
  refine sa Tryd.sizeOf26 rfl rfl rfl rfl rfl (.tail .head) ?_
  refine dNk (by kernel_rfl) ?_
  refine dD (by kernel_rfl) ?_
  refine Nt ?_
  refine sq ?_
  refine rgD 9 (.keep (.keep (.keep .nil))) mixed ?_
  refine dT 0 rfl rfl rfl (by kernel_rfl) (fun _ _ _ h => h) (y_fa0 F26_3 rfl) (.keep (.keep (.keep .nil))) (Fz.le.refl _) ?_
  refine dT 1 rfl rfl rfl (by kernel_rfl) (fun _ _ _ h => h) (y_ld (Says.own .head) Tryd.isAgg23 rfl (Nat.zero_add _).symm rfl) (.keep (.keep (.keep .nil))) (Fz.le.refl _) ?_
  refine dT 2 rfl rfl rfl (by kernel_rfl) (fun _ _ _ h => h) (y_mv rfl) (.keep (.keep (.keep .nil))) (Fz.le.refl _) ?_
  refine dT 3 rfl rfl rfl (by kernel_rfl) (fun _ _ _ h => h) (y_nc rfl) (.keep (.keep (.keep .nil))) (Fz.le.refl _) ?_
  refine dT 4 rfl rfl rfl (by kernel_rfl) (fun _ _ _ h => h) (y_fa F176_1 rfl) (.keep (.keep (.keep .nil))) (Fz.le.refl _) ?_
  refine dT 5 rfl rfl rfl (by kernel_rfl) (fun _ _ _ h => h) (y_ld (j := 1) (Says.fz (hb.mono le_4)) Tryd.isAgg21 rfl rfl rfl) (.keep (.keep (.keep .nil))) (Fz.le.refl _) ?_
  refine dT 6 rfl rfl rfl (by kernel_rfl) (fun _ _ _ h => h) (y_cv Tryd.runUnderlying21 Tryd.runUnderlying2 rfl (i32_64 _)) (.keep (.keep (.keep .nil))) (Fz.le.refl _) ?_
  refine dT 7 rfl rfl rfl (by kernel_rfl) (fun _ _ _ h => h) (y_bd S26 rfl rfl) (.keep (.keep (.keep .nil))) (Fz.le.refl _) ?_
  refine dT 8 rfl rfl rfl (by kernel_rfl) (fun _ _ _ h => h) (y_ix2 (j := 1) Tryd.runUnderlying23 Tryd.sizeOf26 rfl rfl rfl rfl (by decide)) (.keep (.keep (.keep .nil))) (Fz.le.refl _) ?_
  refine dE 9 (by kernel_rfl) rfl ?_
  refine sa Tryd.sizeOf26 rfl rfl rfl rfl rfl (.tail .head) ?_
  refine dNk (by kernel_rfl) ?_
  refine dD (by kernel_rfl) ?_
  refine Nt ?_
  refine sq ?_
  refine rgD 9 (.keep (.keep (.keep .nil))) mixed ?_
  refine dT 0 rfl rfl rfl (by kernel_rfl) (fun _ _ _ h => h) (y_fa0 F26_3 rfl) (.keep (.keep (.keep .nil))) (Fz.le.refl _) ?_
  refine dT 1 rfl rfl rfl (by kernel_rfl) (fun _ _ _ h => h) (y_ld (Says.own .head) Tryd.isAgg23 rfl (Nat.zero_add _).symm rfl) (.keep (.keep (.keep .nil))) (Fz.le.refl _) ?_
  refine dT 2 rfl rfl rfl (by kernel_rfl) (fun _ _ _ h => h) (y_mv rfl) (.keep (.keep (.keep .nil))) (Fz.le.refl _) ?_
  refine dT 3 rfl rfl rfl (by kernel_rfl) (fun _ _ _ h => h) (y_nc rfl) (.keep (.keep (.keep .nil))) (Fz.le.refl _) ?_
  refine dT 4 rfl rfl rfl (by kernel_rfl) (fun _ _ _ h => h) (y_fa F176_2 rfl) (.keep (.keep (.keep .nil))) (Fz.le.refl _) ?_
  refine dT 5 rfl rfl rfl (by kernel_rfl) (fun _ _ _ h => h) (y_ld (j := 2) (Says.fz (hb.mono le_4)) Tryd.isAgg45 rfl rfl rfl) (.keep (.keep (.keep .nil))) (Fz.le.refl _) ?_
  refine dT 6 rfl rfl rfl (by kernel_rfl) (fun _ _ _ h => h) (y_cv Tryd.runUnderlying45 Tryd.runUnderlying2 rfl (i16_64 _)) (.keep (.keep (.keep .nil))) (Fz.le.refl _) ?_
  refine dT 7 rfl rfl rfl (by kernel_rfl) (fun _ _ _ h => h) (y_bd S26 rfl rfl) (.keep (.keep (.keep .nil))) (Fz.le.refl _) ?_
  refine dT 8 rfl rfl rfl (by kernel_rfl) (fun _ _ _ h => h) (y_ix2 (j := 2) Tryd.runUnderlying23 Tryd.sizeOf26 rfl rfl rfl rfl (by decide)) (.keep (.keep (.keep .nil))) (Fz.le.refl _) ?_
  refine dE 9 (by kernel_rfl) rfl ?_
  refine sa Tryd.sizeOf26 rfl rfl rfl rfl rfl (.tail .head) ?_
  refine dNk (by kernel_rfl) ?_
  refine dD (by kernel_rfl) ?_
  refine Nt ?_
  refine sq ?_
  refine rgD 9 (.keep (.keep (.keep .nil))) mixed ?_
  refine dT 0 rfl rfl rfl (by kernel_rfl) (fun _ _ _ h => h) (y_fa0 F26_3 rfl) (.keep (.keep (.keep .nil))) (Fz.le.refl _) ?_
  refine dT 1 rfl rfl rfl (by kernel_rfl) (fun _ _ _ h => h) (y_ld (Says.own .head) Tryd.isAgg23 rfl (Nat.zero_add _).symm rfl) (.keep (.keep (.keep .nil))) (Fz.le.refl _) ?_
  refine dT 2 rfl rfl rfl (by kernel_rfl) (fun _ _ _ h => h) (y_mv rfl) (.keep (.keep (.keep .nil))) (Fz.le.refl _) ?_
  refine dT 3 rfl rfl rfl (by kernel_rfl) (fun _ _ _ h => h) (y_nc rfl) (.keep (.keep (.keep .nil))) (Fz.le.refl _) ?_
  refine dT 4 rfl rfl rfl (by kernel_rfl) (fun _ _ _ h => h) (y_fa F176_3 rfl) (.keep (.keep (.keep .nil))) (Fz.le.refl _) ?_
  refine dT 5 rfl rfl rfl (by kernel_rfl) (fun _ _ _ h => h) (y_ld (j := 3) (Says.fz (hb.mono le_4)) Tryd.isAgg173 rfl rfl rfl) (.keep (.keep (.keep .nil))) (Fz.le.refl _) ?_
  refine dT 6 rfl rfl rfl (by kernel_rfl) (fun _ _ _ h => h) (y_esn Tryd.underlying173 rfl) (.keep (.keep (.keep .nil))) (Fz.le.refl _) ?_
  refine dE 7 (by kernel_rfl) rfl ?_
  refine ixk (j := 3) Tryd.runUnderlying23 Tryd.sizeOf26 rfl rfl rfl rfl (by decide) rfl ?_
  refine dN (.keep (.keep (.keep .nil))) (Fz.le.refl _) ?_
  refine dT 8 rfl rfl rfl (by kernel_rfl) (fun _ _ _ h => h) (y_fa F26_2 rfl) (.keep (.keep (.keep .nil))) (Fz.le.refl _) ?_
  refine dE 9 (by kernel_rfl) rfl ?_
  refine st Tryd.sizeOf4 rfl rfl rfl rfl (.tail .head) ?_
  refine dNk (by kernel_rfl) ?_
  refine dD (by kernel_rfl) ?_
  refine Nt ?_
  refine sq ?_
  refine sr ?_
  refine mv rfl rfl ?_
  refine nc rfl rfl ?_
  refine fa F176_3 rfl rfl ?_
  refine ld (Says.fz (hb.mono le_4)) Tryd.isAgg173 rfl rfl rfl rfl ?_
  refine ls Tryd.runUnderlying173 rfl rfl ?_
  refine mv rfl rfl ?_
  refine nl ?_
  have hlm3 := (hf.at 3).lTl
  refine nulC2 ?_
  refine fr ((lT (T.at 3)).length) (fun k3 l' H' L' => ∃ (al3 : Option Addr), ∃ (ml3 : Nat), ∃ (cl3 : Nat), ∃ (es3 : List EE), ∃ (Nl3 : Chunk), [(0, .pointer (some ⟨b, o, none⟩)), (2, .pointer (some ⟨b_1, 0, none⟩)), (3, .pointer (some ⟨b_3, 0, none⟩)), (48, .int .i64 ((lT (T.at 3)).length : Int))] = l' ∧ Nl3 :: [(b_3, .cells [.int .i64 0, .slice none 0 0, .bool false, _, .slice none 0 0].toArray 26 (0, 0))] :: [(b_2, .cells [.int .i64 0, .slice (some ⟨b14, 0, none⟩) (T.at 0).s.length cp14, .bool false, .slice none 0 0, .slice none 0 0, .int .i64 (IntKind.i32.wrap (T.at 1).n), .slice none 0 0, .bool false, .slice none 0 0, .slice none 0 0, .int .i64 (IntKind.i16.wrap (T.at 2).n), .slice none 0 0, .bool false, .slice none 0 0, .slice none 0 0, .int .i64 0, .slice none 0 0, .bool a3.isNone, .slice al3 ml3 cl3, .slice none 0 0, .int .i64 0, .slice none 0 0, .bool false, .slice none 0 0, .slice none 0 0].toArray 26 (0, 0))] :: [(b_1, .cells [.int .i64 0, .slice none 0 0, .bool false, .slice none 0 0, .slice none 0 0].toArray 26 (0, 0))] :: L = L' ∧ Row 26 5 al3 ml3 cl3 (es3.flatMap f5) Nl3 ∧ ml3 = es3.length ∧ es3.map (·.2) = ((lT (T.at 3)).take k3).map tl_CreateTopicsRequestTopicReplicaAssignment ∧ (∀ p : EE, p ∈ es3 → TreeAt H' p.1 p.2)) [(0, .pointer (some ⟨b, o, none⟩)), (2, .pointer (some ⟨b_1, 0, none⟩)), (3, .pointer (some ⟨b_3, 0, none⟩)), (48, .int .i64 ((lT (T.at 3)).length : Int))] (fun k3 l' H' L' h => ?_) (by omega) rfl (.cons rfl (.cons rfl (.cons rfl (.cons rfl (.nil _))))) ⟨none, 0, 0, [], [], rfl, rfl, (Row.nil _ _), rfl, (by simp), (fun p hp => by cases hp)⟩ rfl rfl rfl rfl rfl (fun k3 l' H' L' hk3 le_5 hI => ?_) (fun l' H' L' le_6 hI => ?_)
  · obtain ⟨al3, ml3, cl3, es3, Nl3, rfl, _⟩ := h; exact ⟨rfl, rfl, rfl, rfl⟩
  · skip
    obtain ⟨al3, ml3, cl3, es3, Nl3, rfl, rfl, pk30, pk31, pk32, pk33⟩ := hI
    refine sr ?_
    refine mv rfl rfl ?_
    refine asg rfl rfl ?_
    refine nl ?_
    refine sq ?_
    refine rgD 4 .nil mixed ?_
    refine dE 0 (by kernel_rfl) rfl ?_
    refine al Tryd.zeroValue4 rfl rfl (fun b_7 => ?_)
    refine dN .nil (Fz.le.refl _) ?_
    refine dE2 1 2 (by kernel_rfl) rfl rfl ?_ ?_
    · skip
      refine st Tryd.sizeOf4 rfl rfl rfl rfl .head ?_
      refine dN .nil (Fz.le.refl _) ?_
      refine dE 2 (by kernel_rfl) rfl ?_
      refine st Tryd.sizeOf4 rfl rfl rfl rfl .head ?_
      refine dN .nil (Fz.le.refl _) ?_
      refine dE 3 (by kernel_rfl) rfl ?_
      refine ld (Says.own .head) Tryd.isAgg4 rfl (Nat.zero_add _).symm rfl rfl ?_
      refine dN .nil (Fz.le.refl _) ?_
      refine dD (by kernel_rfl) ?_
      refine drN .head ?_
      refine Nt ?_
      refine cF rfl ?_
      refine rgD 18 (.skip (.keep (.keep (.keep .nil)))) mixed ?_
      refine dT 0 rfl rfl rfl (by kernel_rfl) (fun _ _ _ h => h) (y_fa0 F26_3 rfl) (.skip (.keep (.keep (.keep .nil)))) (Fz.le.refl _) ?_
      refine dT 1 rfl rfl rfl (by kernel_rfl) (fun _ _ _ h => h) (y_ld (Says.own .head) Tryd.isAgg23 rfl (Nat.zero_add _).symm rfl) (.skip (.keep (.keep (.keep .nil)))) (Fz.le.refl _) ?_
      refine dT 2 rfl rfl rfl (by kernel_rfl) (fun _ _ _ h => h) (y_fa0 F26_3 rfl) (.skip (.keep (.keep (.keep .nil)))) (Fz.le.refl _) ?_
      refine dT 3 rfl rfl rfl (by kernel_rfl) (fun _ _ _ h => h) (y_ld (Says.own .head) Tryd.isAgg23 rfl (Nat.zero_add _).symm rfl) (.skip (.keep (.keep (.keep .nil)))) (Fz.le.refl _) ?_
      refine dT 4 rfl rfl rfl (by kernel_rfl) (fun _ _ _ h => h) (y_ix2 (j := 3) Tryd.runUnderlying23 Tryd.sizeOf26 rfl rfl rfl rfl (by decide)) (.skip (.keep (.keep (.keep .nil)))) (Fz.le.refl _) ?_
      refine dT 5 rfl rfl rfl (by kernel_rfl) (fun _ _ _ h => h) (y_fa F26_3 rfl) (.skip (.keep (.keep (.keep .nil)))) (Fz.le.refl _) ?_
      refine dT 6 rfl rfl rfl (by kernel_rfl) (fun _ _ _ h => h) (y_ld (Says.own (.tail .head)) Tryd.isAgg23 rfl (Nat.zero_add _).symm rfl) (.skip (.keep (.keep (.keep .nil)))) (Fz.le.refl _) ?_
      refine dT 7 rfl rfl rfl (by kernel_rfl) (fun _ _ _ h => h) (y_mv rfl) (.skip (.keep (.keep (.keep .nil)))) (Fz.le.refl _) ?_
      refine dT 8 rfl rfl rfl (by kernel_rfl) (fun _ _ _ h => h) (y_nc rfl) (.skip (.keep (.keep (.keep .nil)))) (Fz.le.refl _) ?_
      refine dT 9 rfl rfl rfl (by kernel_rfl) (fun _ _ _ h => h) (y_fa F176_3 rfl) (.skip (.keep (.keep (.keep .nil)))) (Fz.le.refl _) ?_
      refine dT 10 rfl rfl rfl (by kernel_rfl) (fun _ _ _ h => h) (y_ld (j := 3) (Says.fz (hb.mono (le_4.trans le_5))) Tryd.isAgg173 rfl rfl rfl) (.skip (.keep (.keep (.keep .nil)))) (Fz.le.refl _) ?_
      refine dT 11 rfl rfl rfl (by kernel_rfl) (fun _ _ _ h => h) (y_mv rfl) (.skip (.keep (.keep (.keep .nil)))) (Fz.le.refl _) ?_
      obtain ⟨beq_8, oeq_8, haq_8, hlq_8⟩ := ((h1.mono At_CreateTopicsRequestTopicReplicaAssignment.mono (le_4.trans le_5))).rows.at_ (ne_nil_of_lt hk3)
      obtain ⟨ceq_8, hAq_8, hbq_8⟩ := hlq_8 k3 hk3
      refine dT 12 rfl rfl rfl (by kernel_rfl) (fun _ _ _ h => h) (y_ixk (j := k3) Tryd.runUnderlying173 Tryd.sizeOf233 rfl haq_8 rfl rfl hk3) (.skip (.keep (.keep (.keep .nil)))) (Fz.le.refl _) ?_
      refine dE 13 (by kernel_rfl) rfl ?_
      refine cl rfl rfl rfl (te_CreateTopicsRequestTopicReplicaAssignment hbq_8 (At_CreateTopicsRequestTopicReplicaAssignment.mono _ _ _ _ (Fz.le.refl _) hAq_8) ((hf.at 3).lTel (List.getElem_mem hk3))) rfl (fun v_ H1 L1 le_9 hR_ => ?_)
      obtain ⟨rfl, ct85, rfl, hT85⟩ := hR_
      refine dN (.skip (.keep (.keep (.keep .nil)))) le_9 ?_
      refine dE 14 (by kernel_rfl) rfl ?_
      refine bs' L23 rfl rfl rfl rfl (fun b_10 => ?_)
      refine dN (.skip (.skip (.keep (.keep (.keep .nil))))) le_9 ?_
      refine dE 15 (by kernel_rfl) rfl ?_
      have hmk : ml3 = k3 := by have h1 := congrArg List.length pk32; rw [List.length_map, List.length_map, List.length_take] at h1; omega
      have hmb := (hf.at 3).lTl
      refine ap (k := 1) (news := f5 ((ct85, tl_CreateTopicsRequestTopicReplicaAssignment (lT (T.at 3))[k3]) : EE)) Tryd.underlying23 I26 rfl rfl pk30 (fun _ => (.tail .head)) (src_says Tryd.underlying23 rfl (fun _ => Says.own .head) (f5_one _)) (by omega) (by unfold maxLen; omega) rfl (fun a87 c87 N87 r87 z87 => ?_)
      rw [flatMap_snoc'] at r87
      refine dN (.skip (.skip (.keep (.keep (.keep .nil))))) le_9 ?_
      refine dE 16 (by kernel_rfl) rfl ?_
      refine ixk (j := 3) Tryd.runUnderlying23 Tryd.sizeOf26 rfl rfl rfl rfl (by decide) rfl ?_
      refine dN (.skip (.skip (.keep (.keep (.keep .nil))))) le_9 ?_
      refine dT 17 rfl rfl rfl (by kernel_rfl) (fun _ _ _ h => h) (y_fa F26_3 rfl) (.skip (.skip (.keep (.keep (.keep .nil))))) le_9 ?_
      refine dE 18 (by kernel_rfl) rfl ?_
      refine st Tryd.sizeOf23 rfl rfl rfl rfl (.tail (.tail (.tail .head))) ?_
      refine dNk (by kernel_rfl) ?_
      refine dD (by kernel_rfl) ?_
      refine Nb ?_
      refine drN .head ?_
      refine fun a_ w_ hA hw => ⟨_, _, _, hA.sub ?_, (le_5.trans le_9), hw, _, rfl, a87, (ml3 + 1), c87, (es3 ++ [((ct85, tl_CreateTopicsRequestTopicReplicaAssignment (lT (T.at 3))[k3]) : EE)]), N87, rfl, rfl, r87, (by simp; omega), (map_take_snoc (g := tl_CreateTopicsRequestTopicReplicaAssignment) hk3 pk32), (fun p hp => (mem_snoc hp).elim (fun h => (pk33 p h).mono le_9) (fun h => h ▸ hT85))⟩
      exact (.cons rfl (.cons rfl (.cons rfl (.cons rfl (.cons rfl (.nil _))))))
    · skip
      refine st Tryd.sizeOf4 rfl rfl rfl rfl .head ?_
      refine dN .nil (Fz.le.refl _) ?_
      refine dE 1 (by kernel_rfl) rfl ?_
      refine st Tryd.sizeOf4 rfl rfl rfl rfl .head ?_
      refine dN .nil (Fz.le.refl _) ?_
      refine dE 3 (by kernel_rfl) rfl ?_
      refine ld (Says.own .head) Tryd.isAgg4 rfl (Nat.zero_add _).symm rfl rfl ?_
      refine dN .nil (Fz.le.refl _) ?_
      refine dD (by kernel_rfl) ?_
      refine drN .head ?_
      refine Nt ?_
      refine cT rfl ?_
      refine sq ?_
      refine rgD 17 (.skip (.keep (.keep (.keep .nil)))) mixed ?_
      refine dT 0 rfl rfl rfl (by kernel_rfl) (fun _ _ _ h => h) (y_fa0 F26_3 rfl) (.skip (.keep (.keep (.keep .nil)))) (Fz.le.refl _) ?_
      refine dT 1 rfl rfl rfl (by kernel_rfl) (fun _ _ _ h => h) (y_ld (Says.own .head) Tryd.isAgg23 rfl (Nat.zero_add _).symm rfl) (.skip (.keep (.keep (.keep .nil)))) (Fz.le.refl _) ?_
      refine dT 2 rfl rfl rfl (by kernel_rfl) (fun _ _ _ h => h) (y_ix2 (j := 3) Tryd.runUnderlying23 Tryd.sizeOf26 rfl rfl rfl rfl (by decide)) (.skip (.keep (.keep (.keep .nil)))) (Fz.le.refl _) ?_
      refine dT 3 rfl rfl rfl (by kernel_rfl) (fun _ _ _ h => h) (y_fa F26_3 rfl) (.skip (.keep (.keep (.keep .nil)))) (Fz.le.refl _) ?_
      refine dT 4 rfl rfl rfl (by kernel_rfl) (fun _ _ _ h => h) (y_ld (Says.own (.tail .head)) Tryd.isAgg23 rfl (Nat.zero_add _).symm rfl) (.skip (.keep (.keep (.keep .nil)))) (Fz.le.refl _) ?_
      refine dT 5 rfl rfl rfl (by kernel_rfl) (fun _ _ _ h => h) (y_mv rfl) (.skip (.keep (.keep (.keep .nil)))) (Fz.le.refl _) ?_
      refine dT 6 rfl rfl rfl (by kernel_rfl) (fun _ _ _ h => h) (y_nc rfl) (.skip (.keep (.keep (.keep .nil)))) (Fz.le.refl _) ?_
      refine dT 7 rfl rfl rfl (by kernel_rfl) (fun _ _ _ h => h) (y_fa F176_3 rfl) (.skip (.keep (.keep (.keep .nil)))) (Fz.le.refl _) ?_
      refine dT 8 rfl rfl rfl (by kernel_rfl) (fun _ _ _ h => h) (y_ld (j := 3) (Says.fz (hb.mono (le_4.trans le_5))) Tryd.isAgg173 rfl rfl rfl) (.skip (.keep (.keep (.keep .nil)))) (Fz.le.refl _) ?_
      refine dT 9 rfl rfl rfl (by kernel_rfl) (fun _ _ _ h => h) (y_mv rfl) (.skip (.keep (.keep (.keep .nil)))) (Fz.le.refl _) ?_
      obtain ⟨beq_11, oeq_11, haq_11, hlq_11⟩ := ((h1.mono At_CreateTopicsRequestTopicReplicaAssignment.mono (le_4.trans le_5))).rows.at_ (ne_nil_of_lt hk3)
      obtain ⟨ceq_11, hAq_11, hbq_11⟩ := hlq_11 k3 hk3
      refine dT 10 rfl rfl rfl (by kernel_rfl) (fun _ _ _ h => h) (y_ixk (j := k3) Tryd.runUnderlying173 Tryd.sizeOf233 rfl haq_11 rfl rfl hk3) (.skip (.keep (.keep (.keep .nil)))) (Fz.le.refl _) ?_
      refine dT 12 rfl rfl rfl (by kernel_rfl) (fun _ _ _ h => h) (y_ls Tryd.runUnderlying23 rfl) (.skip (.keep (.keep (.keep .nil)))) (Fz.le.refl _) ?_
      refine dE2 11 13 (by kernel_rfl) rfl rfl ?_ ?_
      · skip
        refine cl rfl rfl rfl (te_CreateTopicsRequestTopicReplicaAssignment hbq_11 (At_CreateTopicsRequestTopicReplicaAssignment.mono _ _ _ _ (Fz.le.refl _) hAq_11) ((hf.at 3).lTel (List.getElem_mem hk3))) rfl (fun v_ H1 L1 le_12 hR_ => ?_)
        obtain ⟨rfl, ct65, rfl, hT65⟩ := hR_
        refine dN (.skip (.keep (.keep (.keep .nil)))) le_12 ?_
        refine dE 13 (by kernel_rfl) rfl ?_
        refine bs' L23 rfl rfl rfl rfl (fun b_13 => ?_)
        refine dN (.skip (.skip (.keep (.keep (.keep .nil))))) le_12 ?_
        refine dE 14 (by kernel_rfl) rfl ?_
        have hmk : ml3 = k3 := by have h1 := congrArg List.length pk32; rw [List.length_map, List.length_map, List.length_take] at h1; omega
        have hmb := (hf.at 3).lTl
        refine ap (k := 1) (news := f5 ((TC.none, Tr.none) : EE)) Tryd.underlying23 I26 rfl rfl pk30 (fun _ => (.tail .head)) (src_says Tryd.underlying23 rfl (fun _ => Says.own .head) (f5_one _)) (by omega) (by unfold maxLen; omega) rfl (fun a68 c68 N68 r68 z68 => ?_)
        refine dN (.skip (.skip (.keep (.keep (.keep .nil))))) le_12 ?_
        refine dE 15 (by kernel_rfl) rfl ?_
        refine ixk (j := 3) Tryd.runUnderlying23 Tryd.sizeOf26 rfl rfl rfl rfl (by decide) rfl ?_
        refine dN (.skip (.skip (.keep (.keep (.keep .nil))))) le_12 ?_
        refine dT 16 rfl rfl rfl (by kernel_rfl) (fun _ _ _ h => h) (y_fa F26_3 rfl) (.skip (.skip (.keep (.keep (.keep .nil))))) le_12 ?_
        refine dE 17 (by kernel_rfl) rfl ?_
        refine st Tryd.sizeOf23 rfl rfl rfl rfl (.tail (.tail (.tail .head))) ?_
        refine dNk (by kernel_rfl) ?_
        refine dD (by kernel_rfl) ?_
        refine Nt ?_
        refine rg ?_
        obtain ⟨gg68, hgg68⟩ := r68.addr (by omega)
        refine ixk (j := ml3) Tryd.runUnderlying23 Tryd.sizeOf26 rfl hgg68 rfl rfl (by omega) rfl ?_
        refine sR (ds := f5 ((ct65, tl_CreateTopicsRequestTopicReplicaAssignment (lT (T.at 3))[k3]) : EE)) r68 hgg68 (fun _ => (.tail .head)) Tryd.sizeOf26 rfl rfl rfl rfl (by omega) (fun N68b r68b => ?_)
        rw [row_put (k := 5) (m := ml3) (A := es3.flatMap f5) (by rw [flatMap_len f5 5 f5_len, pk31]) rfl, flatMap_snoc'] at r68b
        refine nN ?_
        refine Nb ?_
        refine drN .head ?_
        refine fun a_ w_ hA hw => ⟨_, _, _, hA.sub ?_, (le_5.trans le_12), hw, _, rfl, a68, (ml3 + 1), c68, (es3 ++ [((ct65, tl_CreateTopicsRequestTopicReplicaAssignment (lT (T.at 3))[k3]) : EE)]), N68b, rfl, rfl, r68b, (by simp; omega), (map_take_snoc (g := tl_CreateTopicsRequestTopicReplicaAssignment) hk3 pk32), (fun p hp => (mem_snoc hp).elim (fun h => (pk33 p h).mono le_12) (fun h => h ▸ hT65))⟩
        exact (.cons rfl (.cons rfl (.cons rfl (.cons rfl (.cons rfl (.nil _))))))
      · skip
        refine bs' L23 rfl rfl rfl rfl (fun b_14 => ?_)
        refine dN (.skip (.skip (.keep (.keep (.keep .nil))))) (Fz.le.refl _) ?_
        refine dE 11 (by kernel_rfl) rfl ?_
        refine cl rfl rfl rfl (te_CreateTopicsRequestTopicReplicaAssignment hbq_11 (At_CreateTopicsRequestTopicReplicaAssignment.mono _ _ _ _ (Fz.le.refl _) hAq_11) ((hf.at 3).lTel (List.getElem_mem hk3))) rfl (fun v_ H1 L1 le_15 hR_ => ?_)
        obtain ⟨rfl, ct65, rfl, hT65⟩ := hR_
        refine dN (.skip (.skip (.keep (.keep (.keep .nil))))) le_15 ?_
        refine dE 14 (by kernel_rfl) rfl ?_
        have hmk : ml3 = k3 := by have h1 := congrArg List.length pk32; rw [List.length_map, List.length_map, List.length_take] at h1; omega
        have hmb := (hf.at 3).lTl
        refine ap (k := 1) (news := f5 ((TC.none, Tr.none) : EE)) Tryd.underlying23 I26 rfl rfl pk30 (fun _ => (.tail .head)) (src_says Tryd.underlying23 rfl (fun _ => Says.own .head) (f5_one _)) (by omega) (by unfold maxLen; omega) rfl (fun a68 c68 N68 r68 z68 => ?_)
        refine dN (.skip (.skip (.keep (.keep (.keep .nil))))) le_15 ?_
        refine dE 15 (by kernel_rfl) rfl ?_
        refine ixk (j := 3) Tryd.runUnderlying23 Tryd.sizeOf26 rfl rfl rfl rfl (by decide) rfl ?_
        refine dN (.skip (.skip (.keep (.keep (.keep .nil))))) le_15 ?_
        refine dT 16 rfl rfl rfl (by kernel_rfl) (fun _ _ _ h => h) (y_fa F26_3 rfl) (.skip (.skip (.keep (.keep (.keep .nil))))) le_15 ?_
        refine dE 17 (by kernel_rfl) rfl ?_
        refine st Tryd.sizeOf23 rfl rfl rfl rfl (.tail (.tail (.tail .head))) ?_
        refine dNk (by kernel_rfl) ?_
        refine dD (by kernel_rfl) ?_
        refine Nt ?_
        refine rg ?_
        obtain ⟨gg68, hgg68⟩ := r68.addr (by omega)
        refine ixk (j := ml3) Tryd.runUnderlying23 Tryd.sizeOf26 rfl hgg68 rfl rfl (by omega) rfl ?_
        refine sR (ds := f5 ((ct65, tl_CreateTopicsRequestTopicReplicaAssignment (lT (T.at 3))[k3]) : EE)) r68 hgg68 (fun _ => (.tail .head)) Tryd.sizeOf26 rfl rfl rfl rfl (by omega) (fun N68b r68b => ?_)
        rw [row_put (k := 5) (m := ml3) (A := es3.flatMap f5) (by rw [flatMap_len f5 5 f5_len, pk31]) rfl, flatMap_snoc'] at r68b
        refine nN ?_
        refine Nb ?_
        refine drN .head ?_
        refine fun a_ w_ hA hw => ⟨_, _, _, hA.sub ?_, (le_5.trans le_15), hw, _, rfl, a68, (ml3 + 1), c68, (es3 ++ [((ct65, tl_CreateTopicsRequestTopicReplicaAssignment (lT (T.at 3))[k3]) : EE)]), N68b, rfl, rfl, r68b, (by simp; omega), (map_take_snoc (g := tl_CreateTopicsRequestTopicReplicaAssignment) hk3 pk32), (fun p hp => (mem_snoc hp).elim (fun h => (pk33 p h).mono le_15) (fun h => h ▸ hT65))⟩
        exact (.cons rfl (.cons rfl (.cons rfl (.cons rfl (.cons rfl (.nil _))))))
  · skip
    obtain ⟨al3, ml3, cl3, es3, Nl3, rfl, rfl, pk30, pk31, pk32, pk33⟩ := hI
    refine toWp ?_
    have hes3 : es3.map (·.2) = (lT (T.at 3)).map tl_CreateTopicsRequestTopicReplicaAssignment := by rw [pk32, List.take_length]
    have hm3 : ml3 = ((lT (T.at 3)).map tl_CreateTopicsRequestTopicReplicaAssignment).length := by rw [← hes3, List.length_map]; exact pk31
    refine frW pk30 .head (fun Hl3 hll3 hzl3 => ?_)
    have ht3 := TreesAt.row hzl3 pk31 pk30.le.1 (by have h1 := congrArg List.length hes3; rw [List.length_map, List.length_map] at h1; unfold B47; omega) (fun p hp => (pk33 p hp).mono hll3)
    rw [hes3] at ht3
    subst hm3
    refine sq ?_
    refine rgD 9 (.keep (.keep (.keep .nil))) mixed ?_
    refine dT 0 rfl rfl rfl (by kernel_rfl) (fun _ _ _ h => h) (y_fa0 F26_3 rfl) (.keep (.keep (.keep .nil))) (Fz.le.refl _) ?_
    refine dT 1 rfl rfl rfl (by kernel_rfl) (fun _ _ _ h => h) (y_ld (Says.own .head) Tryd.isAgg23 rfl (Nat.zero_add _).symm rfl) (.keep (.keep (.keep .nil))) (Fz.le.refl _) ?_
    refine dT 2 rfl rfl rfl (by kernel_rfl) (fun _ _ _ h => h) (y_mv rfl) (.keep (.keep (.keep .nil))) (Fz.le.refl _) ?_
    refine dT 3 rfl rfl rfl (by kernel_rfl) (fun _ _ _ h => h) (y_nc rfl) (.keep (.keep (.keep .nil))) (Fz.le.refl _) ?_
    refine dT 4 rfl rfl rfl (by kernel_rfl) (fun _ _ _ h => h) (y_fa F176_4 rfl) (.keep (.keep (.keep .nil))) (Fz.le.refl _) ?_
    refine dT 5 rfl rfl rfl (by kernel_rfl) (fun _ _ _ h => h) (y_ld (j := 4) (Says.fz (hb.mono (le_4.trans (le_6.trans hll3)))) Tryd.isAgg174 rfl rfl rfl) (.keep (.keep (.keep .nil))) (Fz.le.refl _) ?_
    refine dT 6 rfl rfl rfl (by kernel_rfl) (fun _ _ _ h => h) (y_esn Tryd.underlying174 rfl) (.keep (.keep (.keep .nil))) (Fz.le.refl _) ?_
    refine dE 7 (by kernel_rfl) rfl ?_
    refine ixk (j := 4) Tryd.runUnderlying23 Tryd.sizeOf26 rfl rfl rfl rfl (by decide) rfl ?_
    refine dN (.keep (.keep (.keep .nil))) (Fz.le.refl _) ?_
    refine dT 8 rfl rfl rfl (by kernel_rfl) (fun _ _ _ h => h) (y_fa F26_2 rfl) (.keep (.keep (.keep .nil))) (Fz.le.refl _) ?_
    refine dE 9 (by kernel_rfl) rfl ?_
    refine st Tryd.sizeOf4 rfl rfl rfl rfl (.tail .head) ?_
    refine dNk (by kernel_rfl) ?_
    refine dD (by kernel_rfl) ?_
    refine Nt ?_
    refine sq ?_
    refine sr ?_
    refine mv rfl rfl ?_
    refine nc rfl rfl ?_
    refine fa F176_4 rfl rfl ?_
    refine ld (Says.fz (hb.mono (le_4.trans (le_6.trans hll3)))) Tryd.isAgg174 rfl rfl rfl rfl ?_
    refine ls Tryd.runUnderlying174 rfl rfl ?_
    refine mv rfl rfl ?_
    refine nl ?_
    have hlm4 := (hf.at 4).lTl
    refine nulC2 ?_
    refine fr ((lT (T.at 4)).length) (fun k4 l' H' L' => ∃ (al4 : Option Addr), ∃ (ml4 : Nat), ∃ (cl4 : Nat), ∃ (es4 : List EE), ∃ (Nl4 : Chunk), [(0, .pointer (some ⟨b, o, none⟩)), (2, .pointer (some ⟨b_1, 0, none⟩)), (3, .pointer (some ⟨b_3, 0, none⟩)), (104, .int .i64 ((lT (T.at 4)).length : Int))] = l' ∧ Nl4 :: [(b_3, .cells [.int .i64 0, .slice none 0 0, .bool false, _, .slice none 0 0].toArray 26 (0, 0))] :: [(b_2, .cells [.int .i64 0, .slice (some ⟨b14, 0, none⟩) (T.at 0).s.length cp14, .bool false, .slice none 0 0, .slice none 0 0, .int .i64 (IntKind.i32.wrap (T.at 1).n), .slice none 0 0, .bool false, .slice none 0 0, .slice none 0 0, .int .i64 (IntKind.i16.wrap (T.at 2).n), .slice none 0 0, .bool false, .slice none 0 0, .slice none 0 0, .int .i64 0, .slice none 0 0, .bool a3.isNone, .slice al3 ((lT (T.at 3)).map tl_CreateTopicsRequestTopicReplicaAssignment).length cl3, .slice none 0 0, .int .i64 0, .slice none 0 0, .bool a4.isNone, .slice al4 ml4 cl4, .slice none 0 0].toArray 26 (0, 0))] :: [(b_1, .cells [.int .i64 0, .slice none 0 0, .bool false, .slice none 0 0, .slice none 0 0].toArray 26 (0, 0))] :: L = L' ∧ Row 26 5 al4 ml4 cl4 (es4.flatMap f5) Nl4 ∧ ml4 = es4.length ∧ es4.map (·.2) = ((lT (T.at 4)).take k4).map tl_CreateTopicsRequestTopicConfig ∧ (∀ p : EE, p ∈ es4 → TreeAt H' p.1 p.2)) [(0, .pointer (some ⟨b, o, none⟩)), (2, .pointer (some ⟨b_1, 0, none⟩)), (3, .pointer (some ⟨b_3, 0, none⟩)), (104, .int .i64 ((lT (T.at 4)).length : Int))] (fun k4 l' H' L' h => ?_) (by omega) rfl (.cons rfl (.cons rfl (.cons rfl (.cons rfl (.nil _))))) ⟨none, 0, 0, [], [], rfl, rfl, (Row.nil _ _), rfl, (by simp), (fun p hp => by cases hp)⟩ rfl rfl rfl rfl rfl (fun k4 l' H' L' hk4 le_16 hI => ?_) (fun l' H' L' le_17 hI => ?_)
    · obtain ⟨al4, ml4, cl4, es4, Nl4, rfl, _⟩ := h; exact ⟨rfl, rfl, rfl, rfl⟩
    · skip
      obtain ⟨al4, ml4, cl4, es4, Nl4, rfl, rfl, pk40, pk41, pk42, pk43⟩ := hI
      refine sr ?_
      refine mv rfl rfl ?_
      refine asg rfl rfl ?_
      refine nl ?_
      refine sq ?_
      refine rgD 4 .nil mixed ?_
      refine dE 0 (by kernel_rfl) rfl ?_
      refine al Tryd.zeroValue4 rfl rfl (fun b_18 => ?_)
      refine dN .nil (Fz.le.refl _) ?_
      refine dE2 1 2 (by kernel_rfl) rfl rfl ?_ ?_
      · skip
        refine st Tryd.sizeOf4 rfl rfl rfl rfl .head ?_
        refine dN .nil (Fz.le.refl _) ?_
        refine dE 2 (by kernel_rfl) rfl ?_
        refine st Tryd.sizeOf4 rfl rfl rfl rfl .head ?_
        refine dN .nil (Fz.le.refl _) ?_
        refine dE 3 (by kernel_rfl) rfl ?_
        refine ld (Says.own .head) Tryd.isAgg4 rfl (Nat.zero_add _).symm rfl rfl ?_
        refine dN .nil (Fz.le.refl _) ?_
        refine dD (by kernel_rfl) ?_
        refine drN .head ?_
        refine Nt ?_
        refine cF rfl ?_
        refine rgD 18 (.skip (.keep (.keep (.keep .nil)))) mixed ?_
        refine dT 0 rfl rfl rfl (by kernel_rfl) (fun _ _ _ h => h) (y_fa0 F26_3 rfl) (.skip (.keep (.keep (.keep .nil)))) (Fz.le.refl _) ?_
        refine dT 1 rfl rfl rfl (by kernel_rfl) (fun _ _ _ h => h) (y_ld (Says.own .head) Tryd.isAgg23 rfl (Nat.zero_add _).symm rfl) (.skip (.keep (.keep (.keep .nil)))) (Fz.le.refl _) ?_
        refine dT 2 rfl rfl rfl (by kernel_rfl) (fun _ _ _ h => h) (y_fa0 F26_3 rfl) (.skip (.keep (.keep (.keep .nil)))) (Fz.le.refl _) ?_
        refine dT 3 rfl rfl rfl (by kernel_rfl) (fun _ _ _ h => h) (y_ld (Says.own .head) Tryd.isAgg23 rfl (Nat.zero_add _).symm rfl) (.skip (.keep (.keep (.keep .nil)))) (Fz.le.refl _) ?_
        refine dT 4 rfl rfl rfl (by kernel_rfl) (fun _ _ _ h => h) (y_ix2 (j := 4) Tryd.runUnderlying23 Tryd.sizeOf26 rfl rfl rfl rfl (by decide)) (.skip (.keep (.keep (.keep .nil)))) (Fz.le.refl _) ?_
        refine dT 5 rfl rfl rfl (by kernel_rfl) (fun _ _ _ h => h) (y_fa F26_3 rfl) (.skip (.keep (.keep (.keep .nil)))) (Fz.le.refl _) ?_
        refine dT 6 rfl rfl rfl (by kernel_rfl) (fun _ _ _ h => h) (y_ld (Says.own (.tail .head)) Tryd.isAgg23 rfl (Nat.zero_add _).symm rfl) (.skip (.keep (.keep (.keep .nil)))) (Fz.le.refl _) ?_
        refine dT 7 rfl rfl rfl (by kernel_rfl) (fun _ _ _ h => h) (y_mv rfl) (.skip (.keep (.keep (.keep .nil)))) (Fz.le.refl _) ?_
        refine dT 8 rfl rfl rfl (by kernel_rfl) (fun _ _ _ h => h) (y_nc rfl) (.skip (.keep (.keep (.keep .nil)))) (Fz.le.refl _) ?_
        refine dT 9 rfl rfl rfl (by kernel_rfl) (fun _ _ _ h => h) (y_fa F176_4 rfl) (.skip (.keep (.keep (.keep .nil)))) (Fz.le.refl _) ?_
        refine dT 10 rfl rfl rfl (by kernel_rfl) (fun _ _ _ h => h) (y_ld (j := 4) (Says.fz (hb.mono (le_4.trans (le_6.trans (hll3.trans le_16))))) Tryd.isAgg174 rfl rfl rfl) (.skip (.keep (.keep (.keep .nil)))) (Fz.le.refl _) ?_
        refine dT 11 rfl rfl rfl (by kernel_rfl) (fun _ _ _ h => h) (y_mv rfl) (.skip (.keep (.keep (.keep .nil)))) (Fz.le.refl _) ?_
        obtain ⟨beq_19, oeq_19, haq_19, hlq_19⟩ := ((h2.mono At_CreateTopicsRequestTopicConfig.mono (le_4.trans (le_6.trans (hll3.trans le_16))))).rows.at_ (ne_nil_of_lt hk4)
        obtain ⟨ceq_19, hAq_19, hbq_19⟩ := hlq_19 k4 hk4
        refine dT 12 rfl rfl rfl (by kernel_rfl) (fun _ _ _ h => h) (y_ixk (j := k4) Tryd.runUnderlying174 Tryd.sizeOf236 rfl haq_19 rfl rfl hk4) (.skip (.keep (.keep (.keep .nil)))) (Fz.le.refl _) ?_
        refine dE 13 (by kernel_rfl) rfl ?_
        refine cl rfl rfl rfl (te_CreateTopicsRequestTopicConfig hbq_19 (At_CreateTopicsRequestTopicConfig.mono _ _ _ _ (Fz.le.refl _) hAq_19) ((hf.at 4).lTel (List.getElem_mem hk4))) rfl (fun v_ H1 L1 le_20 hR_ => ?_)
        obtain ⟨rfl, ct141, rfl, hT141⟩ := hR_
        refine dN (.skip (.keep (.keep (.keep .nil)))) le_20 ?_
        refine dE 14 (by kernel_rfl) rfl ?_
        refine bs' L23 rfl rfl rfl rfl (fun b_21 => ?_)
        refine dN (.skip (.skip (.keep (.keep (.keep .nil))))) le_20 ?_
        refine dE 15 (by kernel_rfl) rfl ?_
        have hmk : ml4 = k4 := by have h1 := congrArg List.length pk42; rw [List.length_map, List.length_map, List.length_take] at h1; omega
        have hmb := (hf.at 4).lTl
        refine ap (k := 1) (news := f5 ((ct141, tl_CreateTopicsRequestTopicConfig (lT (T.at 4))[k4]) : EE)) Tryd.underlying23 I26 rfl rfl pk40 (fun _ => (.tail .head)) (src_says Tryd.underlying23 rfl (fun _ => Says.own .head) (f5_one _)) (by omega) (by unfold maxLen; omega) rfl (fun a143 c143 N143 r143 z143 => ?_)
        rw [flatMap_snoc'] at r143
        refine dN (.skip (.skip (.keep (.keep (.keep .nil))))) le_20 ?_
        refine dE 16 (by kernel_rfl) rfl ?_
        refine ixk (j := 4) Tryd.runUnderlying23 Tryd.sizeOf26 rfl rfl rfl rfl (by decide) rfl ?_
        refine dN (.skip (.skip (.keep (.keep (.keep .nil))))) le_20 ?_
        refine dT 17 rfl rfl rfl (by kernel_rfl) (fun _ _ _ h => h) (y_fa F26_3 rfl) (.skip (.skip (.keep (.keep (.keep .nil))))) le_20 ?_
        refine dE 18 (by kernel_rfl) rfl ?_
        refine st Tryd.sizeOf23 rfl rfl rfl rfl (.tail (.tail (.tail .head))) ?_
        refine dNk (by kernel_rfl) ?_
        refine dD (by kernel_rfl) ?_
        refine Nb ?_
        refine drN .head ?_
        refine fun a_ w_ hA hw => ⟨_, _, _, hA.sub ?_, (le_16.trans le_20), hw, _, rfl, a143, (ml4 + 1), c143, (es4 ++ [((ct141, tl_CreateTopicsRequestTopicConfig (lT (T.at 4))[k4]) : EE)]), N143, rfl, rfl, r143, (by simp; omega), (map_take_snoc (g := tl_CreateTopicsRequestTopicConfig) hk4 pk42), (fun p hp => (mem_snoc hp).elim (fun h => (pk43 p h).mono le_20) (fun h => h ▸ hT141))⟩
        exact (.cons rfl (.cons rfl (.cons rfl (.cons rfl (.cons rfl (.nil _))))))
      · skip
        refine st Tryd.sizeOf4 rfl rfl rfl rfl .head ?_
        refine dN .nil (Fz.le.refl _) ?_
        refine dE 1 (by kernel_rfl) rfl ?_
        refine st Tryd.sizeOf4 rfl rfl rfl rfl .head ?_
        refine dN .nil (Fz.le.refl _) ?_
        refine dE 3 (by kernel_rfl) rfl ?_
        refine ld (Says.own .head) Tryd.isAgg4 rfl (Nat.zero_add _).symm rfl rfl ?_
        refine dN .nil (Fz.le.refl _) ?_
        refine dD (by kernel_rfl) ?_
        refine drN .head ?_
        refine Nt ?_
        refine cT rfl ?_
        refine sq ?_
        refine rgD 17 (.skip (.keep (.keep (.keep .nil)))) mixed ?_
        refine dT 0 rfl rfl rfl (by kernel_rfl) (fun _ _ _ h => h) (y_fa0 F26_3 rfl) (.skip (.keep (.keep (.keep .nil)))) (Fz.le.refl _) ?_
        refine dT 1 rfl rfl rfl (by kernel_rfl) (fun _ _ _ h => h) (y_ld (Says.own .head) Tryd.isAgg23 rfl (Nat.zero_add _).symm rfl) (.skip (.keep (.keep (.keep .nil)))) (Fz.le.refl _) ?_
        refine dT 2 rfl rfl rfl (by kernel_rfl) (fun _ _ _ h => h) (y_ix2 (j := 4) Tryd.runUnderlying23 Tryd.sizeOf26 rfl rfl rfl rfl (by decide)) (.skip (.keep (.keep (.keep .nil)))) (Fz.le.refl _) ?_
        refine dT 3 rfl rfl rfl (by kernel_rfl) (fun _ _ _ h => h) (y_fa F26_3 rfl) (.skip (.keep (.keep (.keep .nil)))) (Fz.le.refl _) ?_
        refine dT 4 rfl rfl rfl (by kernel_rfl) (fun _ _ _ h => h) (y_ld (Says.own (.tail .head)) Tryd.isAgg23 rfl (Nat.zero_add _).symm rfl) (.skip (.keep (.keep (.keep .nil)))) (Fz.le.refl _) ?_
        refine dT 5 rfl rfl rfl (by kernel_rfl) (fun _ _ _ h => h) (y_mv rfl) (.skip (.keep (.keep (.keep .nil)))) (Fz.le.refl _) ?_
        refine dT 6 rfl rfl rfl (by kernel_rfl) (fun _ _ _ h => h) (y_nc rfl) (.skip (.keep (.keep (.keep .nil)))) (Fz.le.refl _) ?_
        refine dT 7 rfl rfl rfl (by kernel_rfl) (fun _ _ _ h => h) (y_fa F176_4 rfl) (.skip (.keep (.keep (.keep .nil)))) (Fz.le.refl _) ?_
        refine dT 8 rfl rfl rfl (by kernel_rfl) (fun _ _ _ h => h) (y_ld (j := 4) (Says.fz (hb.mono (le_4.trans (le_6.trans (hll3.trans le_16))))) Tryd.isAgg174 rfl rfl rfl) (.skip (.keep (.keep (.keep .nil)))) (Fz.le.refl _) ?_
        refine dT 9 rfl rfl rfl (by kernel_rfl) (fun _ _ _ h => h) (y_mv rfl) (.skip (.keep (.keep (.keep .nil)))) (Fz.le.refl _) ?_
        obtain ⟨beq_22, oeq_22, haq_22, hlq_22⟩ := ((h2.mono At_CreateTopicsRequestTopicConfig.mono (le_4.trans (le_6.trans (hll3.trans le_16))))).rows.at_ (ne_nil_of_lt hk4)
        obtain ⟨ceq_22, hAq_22, hbq_22⟩ := hlq_22 k4 hk4
        refine dT 10 rfl rfl rfl (by kernel_rfl) (fun _ _ _ h => h) (y_ixk (j := k4) Tryd.runUnderlying174 Tryd.sizeOf236 rfl haq_22 rfl rfl hk4) (.skip (.keep (.keep (.keep .nil)))) (Fz.le.refl _) ?_
        refine dT 12 rfl rfl rfl (by kernel_rfl) (fun _ _ _ h => h) (y_ls Tryd.runUnderlying23 rfl) (.skip (.keep (.keep (.keep .nil)))) (Fz.le.refl _) ?_
        refine dE2 11 13 (by kernel_rfl) rfl rfl ?_ ?_
        · skip
          refine cl rfl rfl rfl (te_CreateTopicsRequestTopicConfig hbq_22 (At_CreateTopicsRequestTopicConfig.mono _ _ _ _ (Fz.le.refl _) hAq_22) ((hf.at 4).lTel (List.getElem_mem hk4))) rfl (fun v_ H1 L1 le_23 hR_ => ?_)
          obtain ⟨rfl, ct121, rfl, hT121⟩ := hR_
          refine dN (.skip (.keep (.keep (.keep .nil)))) le_23 ?_
          refine dE 13 (by kernel_rfl) rfl ?_
          refine bs' L23 rfl rfl rfl rfl (fun b_24 => ?_)
          refine dN (.skip (.skip (.keep (.keep (.keep .nil))))) le_23 ?_
          refine dE 14 (by kernel_rfl) rfl ?_
          have hmk : ml4 = k4 := by have h1 := congrArg List.length pk42; rw [List.length_map, List.length_map, List.length_take] at h1; omega
          have hmb := (hf.at 4).lTl
          refine ap (k := 1) (news := f5 ((TC.none, Tr.none) : EE)) Tryd.underlying23 I26 rfl rfl pk40 (fun _ => (.tail .head)) (src_says Tryd.underlying23 rfl (fun _ => Says.own .head) (f5_one _)) (by omega) (by unfold maxLen; omega) rfl (fun a124 c124 N124 r124 z124 => ?_)
          refine dN (.skip (.skip (.keep (.keep (.keep .nil))))) le_23 ?_
          refine dE 15 (by kernel_rfl) rfl ?_
          refine ixk (j := 4) Tryd.runUnderlying23 Tryd.sizeOf26 rfl rfl rfl rfl (by decide) rfl ?_
          refine dN (.skip (.skip (.keep (.keep (.keep .nil))))) le_23 ?_
          refine dT 16 rfl rfl rfl (by kernel_rfl) (fun _ _ _ h => h) (y_fa F26_3 rfl) (.skip (.skip (.keep (.keep (.keep .nil))))) le_23 ?_
          refine dE 17 (by kernel_rfl) rfl ?_
          refine st Tryd.sizeOf23 rfl rfl rfl rfl (.tail (.tail (.tail .head))) ?_
          refine dNk (by kernel_rfl) ?_
          refine dD (by kernel_rfl) ?_
          refine Nt ?_
          refine rg ?_
          obtain ⟨gg124, hgg124⟩ := r124.addr (by omega)
          refine ixk (j := ml4) Tryd.runUnderlying23 Tryd.sizeOf26 rfl hgg124 rfl rfl (by omega) rfl ?_
          refine sR (ds := f5 ((ct121, tl_CreateTopicsRequestTopicConfig (lT (T.at 4))[k4]) : EE)) r124 hgg124 (fun _ => (.tail .head)) Tryd.sizeOf26 rfl rfl rfl rfl (by omega) (fun N124b r124b => ?_)
          rw [row_put (k := 5) (m := ml4) (A := es4.flatMap f5) (by rw [flatMap_len f5 5 f5_len, pk41]) rfl, flatMap_snoc'] at r124b
          refine nN ?_
          refine Nb ?_
          refine drN .head ?_
          refine fun a_ w_ hA hw => ⟨_, _, _, hA.sub ?_, (le_16.trans le_23), hw, _, rfl, a124, (ml4 + 1), c124, (es4 ++ [((ct121, tl_CreateTopicsRequestTopicConfig (lT (T.at 4))[k4]) : EE)]), N124b, rfl, rfl, r124b, (by simp; omega), (map_take_snoc (g := tl_CreateTopicsRequestTopicConfig) hk4 pk42), (fun p hp => (mem_snoc hp).elim (fun h => (pk43 p h).mono le_23) (fun h => h ▸ hT121))⟩
          exact (.cons rfl (.cons rfl (.cons rfl (.cons rfl (.cons rfl (.nil _))))))
        · skip
          refine bs' L23 rfl rfl rfl rfl (fun b_25 => ?_)
          refine dN (.skip (.skip (.keep (.keep (.keep .nil))))) (Fz.le.refl _) ?_
          refine dE 11 (by kernel_rfl) rfl ?_
          refine cl rfl rfl rfl (te_CreateTopicsRequestTopicConfig hbq_22 (At_CreateTopicsRequestTopicConfig.mono _ _ _ _ (Fz.le.refl _) hAq_22) ((hf.at 4).lTel (List.getElem_mem hk4))) rfl (fun v_ H1 L1 le_26 hR_ => ?_)
          obtain ⟨rfl, ct121, rfl, hT121⟩ := hR_
          refine dN (.skip (.skip (.keep (.keep (.keep .nil))))) le_26 ?_
          refine dE 14 (by kernel_rfl) rfl ?_
          have hmk : ml4 = k4 := by have h1 := congrArg List.length pk42; rw [List.length_map, List.length_map, List.length_take] at h1; omega
          have hmb := (hf.at 4).lTl
          refine ap (k := 1) (news := f5 ((TC.none, Tr.none) : EE)) Tryd.underlying23 I26 rfl rfl pk40 (fun _ => (.tail .head)) (src_says Tryd.underlying23 rfl (fun _ => Says.own .head) (f5_one _)) (by omega) (by unfold maxLen; omega) rfl (fun a124 c124 N124 r124 z124 => ?_)
          refine dN (.skip (.skip (.keep (.keep (.keep .nil))))) le_26 ?_
          refine dE 15 (by kernel_rfl) rfl ?_
          refine ixk (j := 4) Tryd.runUnderlying23 Tryd.sizeOf26 rfl rfl rfl rfl (by decide) rfl ?_
          refine dN (.skip (.skip (.keep (.keep (.keep .nil))))) le_26 ?_
          refine dT 16 rfl rfl rfl (by kernel_rfl) (fun _ _ _ h => h) (y_fa F26_3 rfl) (.skip (.skip (.keep (.keep (.keep .nil))))) le_26 ?_
          refine dE 17 (by kernel_rfl) rfl ?_
          refine st Tryd.sizeOf23 rfl rfl rfl rfl (.tail (.tail (.tail .head))) ?_
          refine dNk (by kernel_rfl) ?_
          refine dD (by kernel_rfl) ?_
          refine Nt ?_
          refine rg ?_
          obtain ⟨gg124, hgg124⟩ := r124.addr (by omega)
          refine ixk (j := ml4) Tryd.runUnderlying23 Tryd.sizeOf26 rfl hgg124 rfl rfl (by omega) rfl ?_
          refine sR (ds := f5 ((ct121, tl_CreateTopicsRequestTopicConfig (lT (T.at 4))[k4]) : EE)) r124 hgg124 (fun _ => (.tail .head)) Tryd.sizeOf26 rfl rfl rfl rfl (by omega) (fun N124b r124b => ?_)
          rw [row_put (k := 5) (m := ml4) (A := es4.flatMap f5) (by rw [flatMap_len f5 5 f5_len, pk41]) rfl, flatMap_snoc'] at r124b
          refine nN ?_
          refine Nb ?_
          refine drN .head ?_
          refine fun a_ w_ hA hw => ⟨_, _, _, hA.sub ?_, (le_16.trans le_26), hw, _, rfl, a124, (ml4 + 1), c124, (es4 ++ [((ct121, tl_CreateTopicsRequestTopicConfig (lT (T.at 4))[k4]) : EE)]), N124b, rfl, rfl, r124b, (by simp; omega), (map_take_snoc (g := tl_CreateTopicsRequestTopicConfig) hk4 pk42), (fun p hp => (mem_snoc hp).elim (fun h => (pk43 p h).mono le_26) (fun h => h ▸ hT121))⟩
          exact (.cons rfl (.cons rfl (.cons rfl (.cons rfl (.cons rfl (.nil _))))))
    · skip
      obtain ⟨al4, ml4, cl4, es4, Nl4, rfl, rfl, pk40, pk41, pk42, pk43⟩ := hI
      refine toWp ?_
      have hes4 : es4.map (·.2) = (lT (T.at 4)).map tl_CreateTopicsRequestTopicConfig := by rw [pk42, List.take_length]
      have hm4 : ml4 = ((lT (T.at 4)).map tl_CreateTopicsRequestTopicConfig).length := by rw [← hes4, List.length_map]; exact pk41
      refine frW pk40 .head (fun Hl4 hll4 hzl4 => ?_)
      have ht4 := TreesAt.row hzl4 pk41 pk40.le.1 (by have h1 := congrArg List.length hes4; rw [List.length_map, List.length_map] at h1; unfold B47; omega) (fun p hp => (pk43 p hp).mono hll4)
      rw [hes4] at ht4
      subst hm4
      refine sr ?_
      refine mv rfl rfl ?_
      refine nc rfl rfl ?_
      refine fa F176_5 rfl rfl ?_
      refine mkf rfl rfl ?_
      obtain ⟨kvs, hM, hlen, hel⟩ := (h3.mono (le_4.trans (le_6.trans (hll3.trans (le_17.trans hll4)))))
      have hfu := hf.u
      refine cl rfl rfl rfl (t_each (j := 5) (I := fun i H1 Y => TgI 61 b_3 26 (.int .i64 0) (.slice none 0 0) (.bool false) (_) T.u i H1 Y) (hb.mono (le_4.trans (le_6.trans (hll3.trans (le_17.trans hll4))))) rfl hM (by omega) (fun i H1 H2 Y hle h => h.mono hle) TgI.start (fun i k v H1 Y L1 hi hle hI => ?_)) rfl (fun v_ H1 L1 le_28 hR_ => ?_)
      · obtain ⟨s, h1, ⟨va, vc, rfl, hx⟩, h2, h3⟩ := hel i k v hi
        have hik := sortKv_lt hi
        exact TgI.step (fun {_ _ _ _ _ _ _ _ _ _ _ _ _ _ _ _} => tc_223) hf.v (by omega) h1 (hx.mono hle) h2 h3 hI
      rw [hlen] at hR_
      obtain ⟨_, rfl, aU, cU, NU, esU, rfl, hrU, heU, hgU⟩ := hR_
      refine splL ?_
      rw [List.take_length] at heU
      refine frL hrU (.tail .head) (fun HU hleU hzU => ?_)
      have hU := (TagsAt.told hzU hrU heU hfu (fun p hp => (hgU p hp).mono hleU)).1
      refine nl ?_
      refine sr ?_
      refine fa0 F26_4 rfl rfl ?_
      refine ld (Says.own .head) Tryd.isAgg24 rfl (Nat.zero_add _).symm rfl rfl ?_
      refine cl rfl rfl rfl (k_sorted hU (h3.mono (le_4.trans (le_6.trans (hll3.trans (le_17.trans (hll4.trans (le_28.trans hleU))))))).rise) rfl (fun v_ H1 L1 hle_ hR_ => ?_)
      obtain ⟨rfl, rfl⟩ := hR_
      refine nl ?_
      refine sr ?_
      refine la (Says.own .head) Tryd.isAgg26 Tryd.sizeOf26 rfl (Nat.zero_add _).symm rfl rfl ?_
      refine sa Tryd.sizeOf26 rfl rfl rfl rfl rfl (.tail (.tail .head)) ?_
      refine nl ?_
      refine drW .head ?_
      refine frW (Row.whole (e := 26) (size := 5) (m := 5) (ds := [.int .i64 0, .slice (some ⟨b14, 0, none⟩) (T.at 0).s.length cp14, .bool false, .slice none 0 0, .slice none 0 0, .int .i64 (IntKind.i32.wrap (T.at 1).n), .slice none 0 0, .bool false, .slice none 0 0, .slice none 0 0, .int .i64 (IntKind.i16.wrap (T.at 2).n), .slice none 0 0, .bool false, .slice none 0 0, .slice none 0 0, .int .i64 0, .slice none 0 0, .bool a3.isNone, .slice al3 ((lT (T.at 3)).map tl_CreateTopicsRequestTopicReplicaAssignment).length cl3, .slice none 0 0, .int .i64 0, .slice none 0 0, .bool a4.isNone, .slice al4 ((lT (T.at 4)).map tl_CreateTopicsRequestTopicConfig).length cl4, .slice none 0 0]) rfl (by unfold maxLen; omega)) .head (fun H9 hle9 hz9 => ?_)
      have hrb : H9.at b_2 0 [.int .i64 0, .slice (some ⟨b14, 0, none⟩) (T.at 0).s.length cp14, .bool false, .slice none 0 0, .slice none 0 0, .int .i64 (IntKind.i32.wrap (T.at 1).n), .slice none 0 0, .bool false, .slice none 0 0, .slice none 0 0, .int .i64 (IntKind.i16.wrap (T.at 2).n), .slice none 0 0, .bool false, .slice none 0 0, .slice none 0 0, .int .i64 0, .slice none 0 0, .bool a3.isNone, .slice al3 ((lT (T.at 3)).map tl_CreateTopicsRequestTopicReplicaAssignment).length cl3, .slice none 0 0, .int .i64 0, .slice none 0 0, .bool a4.isNone, .slice al4 ((lT (T.at 4)).map tl_CreateTopicsRequestTopicConfig).length cl4, .slice none 0 0] := by
        rcases hz9 with ⟨h, _⟩ | ⟨g, h, h2⟩
        · cases h
        · cases h; exact h2
      rw [(h1).nul, (h2).nul] at hrb
      have hrb2 : H9.at b_2 0 (([((⟨some ⟨b14, 0, none⟩, cp14, none, 0, none, 0⟩ : TC), (Tr.mk 0 (T.at 0).s false [] [] : Tr)), ((TC.none : TC), (Tr.mk (IntKind.i32.wrap (T.at 1).n) [] false [] [] : Tr)), ((TC.none : TC), (Tr.mk (IntKind.i16.wrap (T.at 2).n) [] false [] [] : Tr)), ((⟨none, 0, al3, cl3, none, 0⟩ : TC), (Tr.mk 0 [] (T.at 3).nul ((lT (T.at 3)).map tl_CreateTopicsRequestTopicReplicaAssignment) [] : Tr)), ((⟨none, 0, al4, cl4, none, 0⟩ : TC), (Tr.mk 0 [] (T.at 4).nul ((lT (T.at 4)).map tl_CreateTopicsRequestTopicConfig) [] : Tr))] : List EE).flatMap fun p => p.1.cells p.2) := by exact hrb
      have hl9 : TreesAt H9 (some ⟨b_2, 0, none⟩) 5 [(.mk 0 (T.at 0).s false [] []), (.mk (IntKind.i32.wrap (T.at 1).n) [] false [] []), (.mk (IntKind.i16.wrap (T.at 2).n) [] false [] []), (.mk 0 [] (T.at 3).nul ((lT (T.at 3)).map tl_CreateTopicsRequestTopicReplicaAssignment) []), (.mk 0 [] (T.at 4).nul ((lT (T.at 4)).map tl_CreateTopicsRequestTopicConfig) [])] := by
        refine TreesAt.row (es := [((⟨some ⟨b14, 0, none⟩, cp14, none, 0, none, 0⟩ : TC), (Tr.mk 0 (T.at 0).s false [] [] : Tr)), ((TC.none : TC), (Tr.mk (IntKind.i32.wrap (T.at 1).n) [] false [] [] : Tr)), ((TC.none : TC), (Tr.mk (IntKind.i16.wrap (T.at 2).n) [] false [] [] : Tr)), ((⟨none, 0, al3, cl3, none, 0⟩ : TC), (Tr.mk 0 [] (T.at 3).nul ((lT (T.at 3)).map tl_CreateTopicsRequestTopicReplicaAssignment) [] : Tr)), ((⟨none, 0, al4, cl4, none, 0⟩ : TC), (Tr.mk 0 [] (T.at 4).nul ((lT (T.at 4)).map tl_CreateTopicsRequestTopicConfig) [] : Tr))]) (.inr ⟨_, rfl, hrb2⟩) rfl (Nat.le_refl _) (Nat.le_of_ble_eq_true rfl) ?_
        intro p hp
        simp only [List.mem_cons, List.not_mem_nil, or_false] at hp
        rcases hp with rfl | rfl | rfl | rfl | rfl
        · exact (.of (hb14.mono (le_6.trans (hll3.trans (le_17.trans (hll4.trans (le_28.trans (hleU.trans hle9))))))) (.nil _) (.nil _))
        · exact (.of (.nil _) (.nil _) (.nil _))
        · exact (.of (.nil _) (.nil _) (.nil _))
        · exact (.of (.nil _) (ht3.mono (le_17.trans (hll4.trans (le_28.trans (hleU.trans hle9))))) (.nil _))
        · exact (.of (.nil _) (ht4.mono (le_28.trans (hleU.trans hle9))) (.nil _))
      exact rC rfl Tryd.isAgg26 Tryd.sizeOf26 rfl .head rfl (le_4.trans (le_6.trans (hll3.trans (le_17.trans (hll4.trans (le_28.trans (hleU.trans hle9))))))) (fun _ _ h => h) ⟨rfl, ⟨none, 0, some ⟨b_2, 0, none⟩, 5, aU, cU⟩, rfl, .of (.nil _) hl9 (hU.mono hle9)⟩
def tl_CreateTopicsRequest (T : Tr) : Tr := .mk 0 [] false [(.mk 0 [] (T.at 0).nul ((lT (T.at 0)).map tl_CreateTopicsRequestTopic) []), (.mk (IntKind.i32.wrap (T.at 1).n) [] false [] []), (.mk (if decide ((T.at 2).n % 2 = 1) = true then 1 else 0) [] false [] [])] T.u
theorem te_CreateTopicsRequest {H : Fz} {L : Own} {b o : Nat} {cs : List Value} {T : Tr} {ver : Int} (hb : H.at b o cs) (hA : At_CreateTopicsRequest ver H T cs) (hf : Fits T) :
    Fn Tryd.prog 110 [.pointer (some ⟨b, o, none⟩)] H L (fun v H' L' => L = L' ∧ ∃ c : TC, v = .agg (c.cells (tl_CreateTopicsRequest T)).toArray ∧ TreeAt H' c (tl_CreateTopicsRequest T)) := by
  obtain ⟨a0, c0, mt, rfl, h1, h2⟩ := hA
  refine Fn.mk Tryd.call110 Tryd.func110 rfl Tryd.ntmps110 rfl ?_
  refine sr ?_
  refine al Tryd.zeroValue26 rfl rfl (fun b_1 => ?_)
  refine nl ?_
  refine sr ?_
  refine mkC (m := 3) (zs := [.int .i64 0, .slice none 0 0, .bool false, .slice none 0 0, .slice none 0 0]) Tryd.underlying23 I26 rfl rfl rfl rfl rfl rfl (by decide) (by unfold maxLen; omega) rfl (fun b_2 => ?_)
  refine bd' S26 rfl rfl rfl ?_
  refine al Tryd.zeroValue26 rfl rfl (fun b_3 => ?_)
  refine sa Tryd.sizeOf26 rfl rfl rfl rfl rfl .head ?_
  refine nl ?_
  refine sq ?_
  refine rgD 9 (.keep (.keep (.keep .nil))) mixed ?_
  refine dT 0 rfl rfl rfl (by kernel_rfl) (fun _ _ _ h => h) (y_fa0 F26_3 rfl) (.keep (.keep (.keep .nil))) (Fz.le.refl _) ?_
  refine dT 1 rfl rfl rfl (by kernel_rfl) (fun _ _ _ h => h) (y_ld (Says.own .head) Tryd.isAgg23 rfl (Nat.zero_add _).symm rfl) (.keep (.keep (.keep .nil))) (Fz.le.refl _) ?_
  refine dT 2 rfl rfl rfl (by kernel_rfl) (fun _ _ _ h => h) (y_mv rfl) (.keep (.keep (.keep .nil))) (Fz.le.refl _) ?_
  refine dT 3 rfl rfl rfl (by kernel_rfl) (fun _ _ _ h => h) (y_nc rfl) (.keep (.keep (.keep .nil))) (Fz.le.refl _) ?_
  refine dT 4 rfl rfl rfl (by kernel_rfl) (fun _ _ _ h => h) (y_fa F170_1 rfl) (.keep (.keep (.keep .nil))) (Fz.le.refl _) ?_
  refine dT 5 rfl rfl rfl (by kernel_rfl) (fun _ _ _ h => h) (y_ld (j := 1) (Says.fz hb) Tryd.isAgg168 rfl rfl rfl) (.keep (.keep (.keep .nil))) (Fz.le.refl _) ?_
  refine dT 6 rfl rfl rfl (by kernel_rfl) (fun _ _ _ h => h) (y_esn Tryd.underlying168 rfl) (.keep (.keep (.keep .nil))) (Fz.le.refl _) ?_
  refine dE 7 (by kernel_rfl) rfl ?_
  refine ixk (j := 0) Tryd.runUnderlying23 Tryd.sizeOf26 rfl rfl rfl rfl (by decide) rfl ?_
  refine dN (.keep (.keep (.keep .nil))) (Fz.le.refl _) ?_
  refine dT 8 rfl rfl rfl (by kernel_rfl) (fun _ _ _ h => h) (y_fa F26_2 rfl) (.keep (.keep (.keep .nil))) (Fz.le.refl _) ?_
  refine dE 9 (by kernel_rfl) rfl ?_
  refine st Tryd.sizeOf4 rfl rfl rfl rfl (.tail .head) ?_
  refine dNk (by kernel_rfl) ?_
  refine dD (by kernel_rfl) ?_
  refine Nt ?_
  refine sq ?_
  refine sr ?_
  refine mv rfl rfl ?_
  refine nc rfl rfl ?_
  refine fa F170_1 rfl rfl ?_
  refine ld (Says.fz hb) Tryd.isAgg168 rfl rfl rfl rfl ?_
  refine ls Tryd.runUnderlying168 rfl rfl ?_
  refine mv rfl rfl ?_
  refine nl ?_
  have hlm0 := (hf.at 0).lTl
  refine nulC2 ?_
  refine fr ((lT (T.at 0)).length) (fun k0 l' H' L' => ∃ (al0 : Option Addr), ∃ (ml0 : Nat), ∃ (cl0 : Nat), ∃ (es0 : List EE), ∃ (Nl0 : Chunk), [(0, .pointer (some ⟨b, o, none⟩)), (2, .pointer (some ⟨b_1, 0, none⟩)), (3, .pointer (some ⟨b_3, 0, none⟩)), (20, .int .i64 ((lT (T.at 0)).length : Int))] = l' ∧ Nl0 :: [(b_3, .cells [.int .i64 0, .slice none 0 0, .bool false, _, .slice none 0 0].toArray 26 (0, 0))] :: [(b_2, .cells [.int .i64 0, .slice none 0 0, .bool a0.isNone, .slice al0 ml0 cl0, .slice none 0 0, .int .i64 0, .slice none 0 0, .bool false, .slice none 0 0, .slice none 0 0, .int .i64 0, .slice none 0 0, .bool false, .slice none 0 0, .slice none 0 0].toArray 26 (0, 0))] :: [(b_1, .cells [.int .i64 0, .slice none 0 0, .bool false, .slice none 0 0, .slice none 0 0].toArray 26 (0, 0))] :: L = L' ∧ Row 26 5 al0 ml0 cl0 (es0.flatMap f5) Nl0 ∧ ml0 = es0.length ∧ es0.map (·.2) = ((lT (T.at 0)).take k0).map tl_CreateTopicsRequestTopic ∧ (∀ p : EE, p ∈ es0 → TreeAt H' p.1 p.2)) [(0, .pointer (some ⟨b, o, none⟩)), (2, .pointer (some ⟨b_1, 0, none⟩)), (3, .pointer (some ⟨b_3, 0, none⟩)), (20, .int .i64 ((lT (T.at 0)).length : Int))] (fun k0 l' H' L' h => ?_) (by omega) rfl (.cons rfl (.cons rfl (.cons rfl (.cons rfl (.nil _))))) ⟨none, 0, 0, [], [], rfl, rfl, (Row.nil _ _), rfl, (by simp), (fun p hp => by cases hp)⟩ rfl rfl rfl rfl rfl (fun k0 l' H' L' hk0 le_4 hI => ?_) (fun l' H' L' le_5 hI => ?_)
  · obtain ⟨al0, ml0, cl0, es0, Nl0, rfl, _⟩ := h; exact ⟨rfl, rfl, rfl, rfl⟩
  · skip
    obtain ⟨al0, ml0, cl0, es0, Nl0, rfl, rfl, pk00, pk01, pk02, pk03⟩ := hI
    refine sr ?_
    refine mv rfl rfl ?_
    refine asg rfl rfl ?_
    refine nl ?_
    refine sq ?_
    refine rgD 4 .nil mixed ?_
    refine dE 0 (by kernel_rfl) rfl ?_
    refine al Tryd.zeroValue4 rfl rfl (fun b_6 => ?_)
    refine dN .nil (Fz.le.refl _) ?_
    refine dE2 1 2 (by kernel_rfl) rfl rfl ?_ ?_
    · skip
      refine st Tryd.sizeOf4 rfl rfl rfl rfl .head ?_
      refine dN .nil (Fz.le.refl _) ?_
      refine dE 2 (by kernel_rfl) rfl ?_
      refine st Tryd.sizeOf4 rfl rfl rfl rfl .head ?_
      refine dN .nil (Fz.le.refl _) ?_
      refine dE 3 (by kernel_rfl) rfl ?_
      refine ld (Says.own .head) Tryd.isAgg4 rfl (Nat.zero_add _).symm rfl rfl ?_
      refine dN .nil (Fz.le.refl _) ?_
      refine dD (by kernel_rfl) ?_
      refine drN .head ?_
      refine Nt ?_
      refine cF rfl ?_
      refine rgD 18 (.skip (.keep (.keep (.keep .nil)))) mixed ?_
      refine dT 0 rfl rfl rfl (by kernel_rfl) (fun _ _ _ h => h) (y_fa0 F26_3 rfl) (.skip (.keep (.keep (.keep .nil)))) (Fz.le.refl _) ?_
      refine dT 1 rfl rfl rfl (by kernel_rfl) (fun _ _ _ h => h) (y_ld (Says.own .head) Tryd.isAgg23 rfl (Nat.zero_add _).symm rfl) (.skip (.keep (.keep (.keep .nil)))) (Fz.le.refl _) ?_
      refine dT 2 rfl rfl rfl (by kernel_rfl) (fun _ _ _ h => h) (y_fa0 F26_3 rfl) (.skip (.keep (.keep (.keep .nil)))) (Fz.le.refl _) ?_
      refine dT 3 rfl rfl rfl (by kernel_rfl) (fun _ _ _ h => h) (y_ld (Says.own .head) Tryd.isAgg23 rfl (Nat.zero_add _).symm rfl) (.skip (.keep (.keep (.keep .nil)))) (Fz.le.refl _) ?_
      refine dT 4 rfl rfl rfl (by kernel_rfl) (fun _ _ _ h => h) (y_ix2 (j := 0) Tryd.runUnderlying23 Tryd.sizeOf26 rfl rfl rfl rfl (by decide)) (.skip (.keep (.keep (.keep .nil)))) (Fz.le.refl _) ?_
      refine dT 5 rfl rfl rfl (by kernel_rfl) (fun _ _ _ h => h) (y_fa F26_3 rfl) (.skip (.keep (.keep (.keep .nil)))) (Fz.le.refl _) ?_
      refine dT 6 rfl rfl rfl (by kernel_rfl) (fun _ _ _ h => h) (y_ld (Says.own (.tail .head)) Tryd.isAgg23 rfl (Nat.zero_add _).symm rfl) (.skip (.keep (.keep (.keep .nil)))) (Fz.le.refl _) ?_
      refine dT 7 rfl rfl rfl (by kernel_rfl) (fun _ _ _ h => h) (y_mv rfl) (.skip (.keep (.keep (.keep .nil)))) (Fz.le.refl _) ?_
      refine dT 8 rfl rfl rfl (by kernel_rfl) (fun _ _ _ h => h) (y_nc rfl) (.skip (.keep (.keep (.keep .nil)))) (Fz.le.refl _) ?_
      refine dT 9 rfl rfl rfl (by kernel_rfl) (fun _ _ _ h => h) (y_fa F170_1 rfl) (.skip (.keep (.keep (.keep .nil)))) (Fz.le.refl _) ?_
      refine dT 10 rfl rfl rfl (by kernel_rfl) (fun _ _ _ h => h) (y_ld (j := 1) (Says.fz (hb.mono le_4)) Tryd.isAgg168 rfl rfl rfl) (.skip (.keep (.keep (.keep .nil)))) (Fz.le.refl _) ?_
      refine dT 11 rfl rfl rfl (by kernel_rfl) (fun _ _ _ h => h) (y_mv rfl) (.skip (.keep (.keep (.keep .nil)))) (Fz.le.refl _) ?_
      obtain ⟨beq_7, oeq_7, haq_7, hlq_7⟩ := ((h1.mono At_CreateTopicsRequestTopic.mono le_4)).rows.at_ (ne_nil_of_lt hk0)
      obtain ⟨ceq_7, hAq_7, hbq_7⟩ := hlq_7 k0 hk0
      refine dT 12 rfl rfl rfl (by kernel_rfl) (fun _ _ _ h => h) (y_ixk (j := k0) Tryd.runUnderlying168 Tryd.sizeOf176 rfl haq_7 rfl rfl hk0) (.skip (.keep (.keep (.keep .nil)))) (Fz.le.refl _) ?_
      refine dE 13 (by kernel_rfl) rfl ?_
      refine cl rfl rfl rfl (te_CreateTopicsRequestTopic hbq_7 (At_CreateTopicsRequestTopic.mono _ _ _ _ (Fz.le.refl _) hAq_7) ((hf.at 0).lTel (List.getElem_mem hk0))) rfl (fun v_ H1 L1 le_8 hR_ => ?_)
      obtain ⟨rfl, ct57, rfl, hT57⟩ := hR_
      refine dN (.skip (.keep (.keep (.keep .nil)))) le_8 ?_
      refine dE 14 (by kernel_rfl) rfl ?_
      refine bs' L23 rfl rfl rfl rfl (fun b_9 => ?_)
      refine dN (.skip (.skip (.keep (.keep (.keep .nil))))) le_8 ?_
      refine dE 15 (by kernel_rfl) rfl ?_
      have hmk : ml0 = k0 := by have h1 := congrArg List.length pk02; rw [List.length_map, List.length_map, List.length_take] at h1; omega
      have hmb := (hf.at 0).lTl
      refine ap (k := 1) (news := f5 ((ct57, tl_CreateTopicsRequestTopic (lT (T.at 0))[k0]) : EE)) Tryd.underlying23 I26 rfl rfl pk00 (fun _ => (.tail .head)) (src_says Tryd.underlying23 rfl (fun _ => Says.own .head) (f5_one _)) (by omega) (by unfold maxLen; omega) rfl (fun a59 c59 N59 r59 z59 => ?_)
      rw [flatMap_snoc'] at r59
      refine dN (.skip (.skip (.keep (.keep (.keep .nil))))) le_8 ?_
      refine dE 16 (by kernel_rfl) rfl ?_
      refine ixk (j := 0) Tryd.runUnderlying23 Tryd.sizeOf26 rfl rfl rfl rfl (by decide) rfl ?_
      refine dN (.skip (.skip (.keep (.keep (.keep .nil))))) le_8 ?_
      refine dT 17 rfl rfl rfl (by kernel_rfl) (fun _ _ _ h => h) (y_fa F26_3 rfl) (.skip (.skip (.keep (.keep (.keep .nil))))) le_8 ?_
      refine dE 18 (by kernel_rfl) rfl ?_
      refine st Tryd.sizeOf23 rfl rfl rfl rfl (.tail (.tail (.tail .head))) ?_
      refine dNk (by kernel_rfl) ?_
      refine dD (by kernel_rfl) ?_
      refine Nb ?_
      refine drN .head ?_
      refine fun a_ w_ hA hw => ⟨_, _, _, hA.sub ?_, (le_4.trans le_8), hw, _, rfl, a59, (ml0 + 1), c59, (es0 ++ [((ct57, tl_CreateTopicsRequestTopic (lT (T.at 0))[k0]) : EE)]), N59, rfl, rfl, r59, (by simp; omega), (map_take_snoc (g := tl_CreateTopicsRequestTopic) hk0 pk02), (fun p hp => (mem_snoc hp).elim (fun h => (pk03 p h).mono le_8) (fun h => h ▸ hT57))⟩
      exact (.cons rfl (.cons rfl (.cons rfl (.cons rfl (.cons rfl (.nil _))))))
    · skip
      refine st Tryd.sizeOf4 rfl rfl rfl rfl .head ?_
      refine dN .nil (Fz.le.refl _) ?_
      refine dE 1 (by kernel_rfl) rfl ?_
      refine st Tryd.sizeOf4 rfl rfl rfl rfl .head ?_
      refine dN .nil (Fz.le.refl _) ?_
      refine dE 3 (by kernel_rfl) rfl ?_
      refine ld (Says.own .head) Tryd.isAgg4 rfl (Nat.zero_add _).symm rfl rfl ?_
      refine dN .nil (Fz.le.refl _) ?_
      refine dD (by kernel_rfl) ?_
      refine drN .head ?_
      refine Nt ?_
      refine cT rfl ?_
      refine sq ?_
      refine rgD 17 (.skip (.keep (.keep (.keep .nil)))) mixed ?_
      refine dT 0 rfl rfl rfl (by kernel_rfl) (fun _ _ _ h => h) (y_fa0 F26_3 rfl) (.skip (.keep (.keep (.keep .nil)))) (Fz.le.refl _) ?_
      refine dT 1 rfl rfl rfl (by kernel_rfl) (fun _ _ _ h => h) (y_ld (Says.own .head) Tryd.isAgg23 rfl (Nat.zero_add _).symm rfl) (.skip (.keep (.keep (.keep .nil)))) (Fz.le.refl _) ?_
      refine dT 2 rfl rfl rfl (by kernel_rfl) (fun _ _ _ h => h) (y_ix2 (j := 0) Tryd.runUnderlying23 Tryd.sizeOf26 rfl rfl rfl rfl (by decide)) (.skip (.keep (.keep (.keep .nil)))) (Fz.le.refl _) ?_
      refine dT 3 rfl rfl rfl (by kernel_rfl) (fun _ _ _ h => h) (y_fa F26_3 rfl) (.skip (.keep (.keep (.keep .nil)))) (Fz.le.refl _) ?_
      refine dT 4 rfl rfl rfl (by kernel_rfl) (fun _ _ _ h => h) (y_ld (Says.own (.tail .head)) Tryd.isAgg23 rfl (Nat.zero_add _).symm rfl) (.skip (.keep (.keep (.keep .nil)))) (Fz.le.refl _) ?_
      refine dT 5 rfl rfl rfl (by kernel_rfl) (fun _ _ _ h => h) (y_mv rfl) (.skip (.keep (.keep (.keep .nil)))) (Fz.le.refl _) ?_
      refine dT 6 rfl rfl rfl (by kernel_rfl) (fun _ _ _ h => h) (y_nc rfl) (.skip (.keep (.keep (.keep .nil)))) (Fz.le.refl _) ?_
      refine dT 7 rfl rfl rfl (by kernel_rfl) (fun _ _ _ h => h) (y_fa F170_1 rfl) (.skip (.keep (.keep (.keep .nil)))) (Fz.le.refl _) ?_
      refine dT 8 rfl rfl rfl (by kernel_rfl) (fun _ _ _ h => h) (y_ld (j := 1) (Says.fz (hb.mono le_4)) Tryd.isAgg168 rfl rfl rfl) (.skip (.keep (.keep (.keep .nil)))) (Fz.le.refl _) ?_
      refine dT 9 rfl rfl rfl (by kernel_rfl) (fun _ _ _ h => h) (y_mv rfl) (.skip (.keep (.keep (.keep .nil)))) (Fz.le.refl _) ?_
      obtain ⟨beq_10, oeq_10, haq_10, hlq_10⟩ := ((h1.mono At_CreateTopicsRequestTopic.mono le_4)).rows.at_ (ne_nil_of_lt hk0)
      obtain ⟨ceq_10, hAq_10, hbq_10⟩ := hlq_10 k0 hk0
      refine dT 10 rfl rfl rfl (by kernel_rfl) (fun _ _ _ h => h) (y_ixk (j := k0) Tryd.runUnderlying168 Tryd.sizeOf176 rfl haq_10 rfl rfl hk0) (.skip (.keep (.keep (.keep .nil)))) (Fz.le.refl _) ?_
      refine dT 12 rfl rfl rfl (by kernel_rfl) (fun _ _ _ h => h) (y_ls Tryd.runUnderlying23 rfl) (.skip (.keep (.keep (.keep .nil)))) (Fz.le.refl _) ?_
      refine dE2 11 13 (by kernel_rfl) rfl rfl ?_ ?_
      · skip
        refine cl rfl rfl rfl (te_CreateTopicsRequestTopic hbq_10 (At_CreateTopicsRequestTopic.mono _ _ _ _ (Fz.le.refl _) hAq_10) ((hf.at 0).lTel (List.getElem_mem hk0))) rfl (fun v_ H1 L1 le_11 hR_ => ?_)
        obtain ⟨rfl, ct37, rfl, hT37⟩ := hR_
        refine dN (.skip (.keep (.keep (.keep .nil)))) le_11 ?_
        refine dE 13 (by kernel_rfl) rfl ?_
        refine bs' L23 rfl rfl rfl rfl (fun b_12 => ?_)
        refine dN (.skip (.skip (.keep (.keep (.keep .nil))))) le_11 ?_
        refine dE 14 (by kernel_rfl) rfl ?_
        have hmk : ml0 = k0 := by have h1 := congrArg List.length pk02; rw [List.length_map, List.length_map, List.length_take] at h1; omega
        have hmb := (hf.at 0).lTl
        refine ap (k := 1) (news := f5 ((TC.none, Tr.none) : EE)) Tryd.underlying23 I26 rfl rfl pk00 (fun _ => (.tail .head)) (src_says Tryd.underlying23 rfl (fun _ => Says.own .head) (f5_one _)) (by omega) (by unfold maxLen; omega) rfl (fun a40 c40 N40 r40 z40 => ?_)
        refine dN (.skip (.skip (.keep (.keep (.keep .nil))))) le_11 ?_
        refine dE 15 (by kernel_rfl) rfl ?_
        refine ixk (j := 0) Tryd.runUnderlying23 Tryd.sizeOf26 rfl rfl rfl rfl (by decide) rfl ?_
        refine dN (.skip (.skip (.keep (.keep (.keep .nil))))) le_11 ?_
        refine dT 16 rfl rfl rfl (by kernel_rfl) (fun _ _ _ h => h) (y_fa F26_3 rfl) (.skip (.skip (.keep (.keep (.keep .nil))))) le_11 ?_
        refine dE 17 (by kernel_rfl) rfl ?_
        refine st Tryd.sizeOf23 rfl rfl rfl rfl (.tail (.tail (.tail .head))) ?_
        refine dNk (by kernel_rfl) ?_
        refine dD (by kernel_rfl) ?_
        refine Nt ?_
        refine rg ?_
        obtain ⟨gg40, hgg40⟩ := r40.addr (by omega)
        refine ixk (j := ml0) Tryd.runUnderlying23 Tryd.sizeOf26 rfl hgg40 rfl rfl (by omega) rfl ?_
        refine sR (ds := f5 ((ct37, tl_CreateTopicsRequestTopic (lT (T.at 0))[k0]) : EE)) r40 hgg40 (fun _ => (.tail .head)) Tryd.sizeOf26 rfl rfl rfl rfl (by omega) (fun N40b r40b => ?_)
        rw [row_put (k := 5) (m := ml0) (A := es0.flatMap f5) (by rw [flatMap_len f5 5 f5_len, pk01]) rfl, flatMap_snoc'] at r40b
        refine nN ?_
        refine Nb ?_
        refine drN .head ?_
        refine fun a_ w_ hA hw => ⟨_, _, _, hA.sub ?_, (le_4.trans le_11), hw, _, rfl, a40, (ml0 + 1), c40, (es0 ++ [((ct37, tl_CreateTopicsRequestTopic (lT (T.at 0))[k0]) : EE)]), N40b, rfl, rfl, r40b, (by simp; omega), (map_take_snoc (g := tl_CreateTopicsRequestTopic) hk0 pk02), (fun p hp => (mem_snoc hp).elim (fun h => (pk03 p h).mono le_11) (fun h => h ▸ hT37))⟩
        exact (.cons rfl (.cons rfl (.cons rfl (.cons rfl (.cons rfl (.nil _))))))
      · skip
        refine bs' L23 rfl rfl rfl rfl (fun b_13 => ?_)
        refine dN (.skip (.skip (.keep (.keep (.keep .nil))))) (Fz.le.refl _) ?_
        refine dE 11 (by kernel_rfl) rfl ?_
        refine cl rfl rfl rfl (te_CreateTopicsRequestTopic hbq_10 (At_CreateTopicsRequestTopic.mono _ _ _ _ (Fz.le.refl _) hAq_10) ((hf.at 0).lTel (List.getElem_mem hk0))) rfl (fun v_ H1 L1 le_14 hR_ => ?_)
        obtain ⟨rfl, ct37, rfl, hT37⟩ := hR_
        refine dN (.skip (.skip (.keep (.keep (.keep .nil))))) le_14 ?_
        refine dE 14 (by kernel_rfl) rfl ?_
        have hmk : ml0 = k0 := by have h1 := congrArg List.length pk02; rw [List.length_map, List.length_map, List.length_take] at h1; omega
        have hmb := (hf.at 0).lTl
        refine ap (k := 1) (news := f5 ((TC.none, Tr.none) : EE)) Tryd.underlying23 I26 rfl rfl pk00 (fun _ => (.tail .head)) (src_says Tryd.underlying23 rfl (fun _ => Says.own .head) (f5_one _)) (by omega) (by unfold maxLen; omega) rfl (fun a40 c40 N40 r40 z40 => ?_)
        refine dN (.skip (.skip (.keep (.keep (.keep .nil))))) le_14 ?_
        refine dE 15 (by kernel_rfl) rfl ?_
        refine ixk (j := 0) Tryd.runUnderlying23 Tryd.sizeOf26 rfl rfl rfl rfl (by decide) rfl ?_
        refine dN (.skip (.skip (.keep (.keep (.keep .nil))))) le_14 ?_
        refine dT 16 rfl rfl rfl (by kernel_rfl) (fun _ _ _ h => h) (y_fa F26_3 rfl) (.skip (.skip (.keep (.keep (.keep .nil))))) le_14 ?_
        refine dE 17 (by kernel_rfl) rfl ?_
        refine st Tryd.sizeOf23 rfl rfl rfl rfl (.tail (.tail (.tail .head))) ?_
        refine dNk (by kernel_rfl) ?_
        refine dD (by kernel_rfl) ?_
        refine Nt ?_
        refine rg ?_
        obtain ⟨gg40, hgg40⟩ := r40.addr (by omega)
        refine ixk (j := ml0) Tryd.runUnderlying23 Tryd.sizeOf26 rfl hgg40 rfl rfl (by omega) rfl ?_
        refine sR (ds := f5 ((ct37, tl_CreateTopicsRequestTopic (lT (T.at 0))[k0]) : EE)) r40 hgg40 (fun _ => (.tail .head)) Tryd.sizeOf26 rfl rfl rfl rfl (by omega) (fun N40b r40b => ?_)
        rw [row_put (k := 5) (m := ml0) (A := es0.flatMap f5) (by rw [flatMap_len f5 5 f5_len, pk01]) rfl, flatMap_snoc'] at r40b
        refine nN ?_
        refine Nb ?_
        refine drN .head ?_
        refine fun a_ w_ hA hw => ⟨_, _, _, hA.sub ?_, (le_4.trans le_14), hw, _, rfl, a40, (ml0 + 1), c40, (es0 ++ [((ct37, tl_CreateTopicsRequestTopic (lT (T.at 0))[k0]) : EE)]), N40b, rfl, rfl, r40b, (by simp; omega), (map_take_snoc (g := tl_CreateTopicsRequestTopic) hk0 pk02), (fun p hp => (mem_snoc hp).elim (fun h => (pk03 p h).mono le_14) (fun h => h ▸ hT37))⟩
        exact (.cons rfl (.cons rfl (.cons rfl (.cons rfl (.cons rfl (.nil _))))))
  · skip
    obtain ⟨al0, ml0, cl0, es0, Nl0, rfl, rfl, pk00, pk01, pk02, pk03⟩ := hI
    refine toWp ?_
    have hes0 : es0.map (·.2) = (lT (T.at 0)).map tl_CreateTopicsRequestTopic := by rw [pk02, List.take_length]
    have hm0 : ml0 = ((lT (T.at 0)).map tl_CreateTopicsRequestTopic).length := by rw [← hes0, List.length_map]; exact pk01
    refine frW pk00 .head (fun Hl0 hll0 hzl0 => ?_)
    have ht0 := TreesAt.row hzl0 pk01 pk00.le.1 (by have h1 := congrArg List.length hes0; rw [List.length_map, List.length_map] at h1; unfold B47; omega) (fun p hp => (pk03 p hp).mono hll0)
    rw [hes0] at ht0
    subst hm0
    refine sq ?_
    refine rgD 9 (.keep (.keep (.keep .nil))) mixed ?_
    refine dT 0 rfl rfl rfl (by kernel_rfl) (fun _ _ _ h => h) (y_fa0 F26_3 rfl) (.keep (.keep (.keep .nil))) (Fz.le.refl _) ?_
    refine dT 1 rfl rfl rfl (by kernel_rfl) (fun _ _ _ h => h) (y_ld (Says.own .head) Tryd.isAgg23 rfl (Nat.zero_add _).symm rfl) (.keep (.keep (.keep .nil))) (Fz.le.refl _) ?_
    refine dT 2 rfl rfl rfl (by kernel_rfl) (fun _ _ _ h => h) (y_mv rfl) (.keep (.keep (.keep .nil))) (Fz.le.refl _) ?_
    refine dT 3 rfl rfl rfl (by kernel_rfl) (fun _ _ _ h => h) (y_nc rfl) (.keep (.keep (.keep .nil))) (Fz.le.refl _) ?_
    refine dT 4 rfl rfl rfl (by kernel_rfl) (fun _ _ _ h => h) (y_fa F170_2 rfl) (.keep (.keep (.keep .nil))) (Fz.le.refl _) ?_
    refine dT 5 rfl rfl rfl (by kernel_rfl) (fun _ _ _ h => h) (y_ld (j := 2) (Says.fz (hb.mono (le_5.trans hll0))) Tryd.isAgg21 rfl rfl rfl) (.keep (.keep (.keep .nil))) (Fz.le.refl _) ?_
    refine dT 6 rfl rfl rfl (by kernel_rfl) (fun _ _ _ h => h) (y_cv Tryd.runUnderlying21 Tryd.runUnderlying2 rfl (i32_64 _)) (.keep (.keep (.keep .nil))) (Fz.le.refl _) ?_
    refine dT 7 rfl rfl rfl (by kernel_rfl) (fun _ _ _ h => h) (y_bd S26 rfl rfl) (.keep (.keep (.keep .nil))) (Fz.le.refl _) ?_
    refine dT 8 rfl rfl rfl (by kernel_rfl) (fun _ _ _ h => h) (y_ix2 (j := 1) Tryd.runUnderlying23 Tryd.sizeOf26 rfl rfl rfl rfl (by decide)) (.keep (.keep (.keep .nil))) (Fz.le.refl _) ?_
    refine dE 9 (by kernel_rfl) rfl ?_
    refine sa Tryd.sizeOf26 rfl rfl rfl rfl rfl (.tail .head) ?_
    refine dNk (by kernel_rfl) ?_
    refine dD (by kernel_rfl) ?_
    refine Nt ?_
    refine sq ?_
    refine rgD 8 (.keep (.keep (.keep .nil))) mixed ?_
    refine dT 0 rfl rfl rfl (by kernel_rfl) (fun _ _ _ h => h) (y_fa0 F26_3 rfl) (.keep (.keep (.keep .nil))) (Fz.le.refl _) ?_
    refine dT 1 rfl rfl rfl (by kernel_rfl) (fun _ _ _ h => h) (y_ld (Says.own .head) Tryd.isAgg23 rfl (Nat.zero_add _).symm rfl) (.keep (.keep (.keep .nil))) (Fz.le.refl _) ?_
    refine dT 2 rfl rfl rfl (by kernel_rfl) (fun _ _ _ h => h) (y_mv rfl) (.keep (.keep (.keep .nil))) (Fz.le.refl _) ?_
    refine dT 3 rfl rfl rfl (by kernel_rfl) (fun _ _ _ h => h) (y_nc rfl) (.keep (.keep (.keep .nil))) (Fz.le.refl _) ?_
    refine dT 4 rfl rfl rfl (by kernel_rfl) (fun _ _ _ h => h) (y_fa F170_3 rfl) (.keep (.keep (.keep .nil))) (Fz.le.refl _) ?_
    refine dT 5 rfl rfl rfl (by kernel_rfl) (fun _ _ _ h => h) (y_ld (j := 3) (Says.fz (hb.mono (le_5.trans hll0))) Tryd.isAgg4 rfl rfl rfl) (.keep (.keep (.keep .nil))) (Fz.le.refl _) ?_
    refine dE 6 (by kernel_rfl) rfl ?_
    refine cl rfl rfl rfl (k_boolTree (p := (decide ((T.at 2).n % 2 = 1)))) rfl (fun v_ H1 L1 hle_ hR_ => ?_)
    obtain ⟨rfl, rfl, rfl⟩ := hR_
    refine dN (.keep (.keep (.keep .nil))) (Fz.le.refl _) ?_
    refine dT 7 rfl rfl rfl (by kernel_rfl) (fun _ _ _ h => h) (y_ix2 (j := 2) Tryd.runUnderlying23 Tryd.sizeOf26 rfl rfl rfl rfl (by decide)) (.keep (.keep (.keep .nil))) (Fz.le.refl _) ?_
    refine dE 8 (by kernel_rfl) rfl ?_
    refine sa Tryd.sizeOf26 rfl rfl rfl rfl rfl (.tail .head) ?_
    refine dNk (by kernel_rfl) ?_
    refine dD (by kernel_rfl) ?_
    refine Nt ?_
    refine sr ?_
    refine mv rfl rfl ?_
    refine nc rfl rfl ?_
    refine fa F170_4 rfl rfl ?_
    refine mkf rfl rfl ?_
    obtain ⟨kvs, hM, hlen, hel⟩ := (h2.mono (le_5.trans hll0))
    have hfu := hf.u
    refine cl rfl rfl rfl (t_each (j := 4) (I := fun i H1 Y => TgI 61 b_3 26 (.int .i64 0) (.slice none 0 0) (.bool false) (_) T.u i H1 Y) (hb.mono (le_5.trans hll0)) rfl hM (by omega) (fun i H1 H2 Y hle h => h.mono hle) TgI.start (fun i k v H1 Y L1 hi hle hI => ?_)) rfl (fun v_ H1 L1 le_17 hR_ => ?_)
    · obtain ⟨s, h1, ⟨va, vc, rfl, hx⟩, h2, h3⟩ := hel i k v hi
      have hik := sortKv_lt hi
      exact TgI.step (fun {_ _ _ _ _ _ _ _ _ _ _ _ _ _ _ _} => tc_160) hf.v (by omega) h1 (hx.mono hle) h2 h3 hI
    rw [hlen] at hR_
    obtain ⟨_, rfl, aU, cU, NU, esU, rfl, hrU, heU, hgU⟩ := hR_
    refine splL ?_
    rw [List.take_length] at heU
    refine frL hrU (.tail .head) (fun HU hleU hzU => ?_)
    have hU := (TagsAt.told hzU hrU heU hfu (fun p hp => (hgU p hp).mono hleU)).1
    refine nl ?_
    refine sr ?_
    refine fa0 F26_4 rfl rfl ?_
    refine ld (Says.own .head) Tryd.isAgg24 rfl (Nat.zero_add _).symm rfl rfl ?_
    refine cl rfl rfl rfl (k_sorted hU (h2.mono (le_5.trans (hll0.trans (le_17.trans hleU)))).rise) rfl (fun v_ H1 L1 hle_ hR_ => ?_)
    obtain ⟨rfl, rfl⟩ := hR_
    refine nl ?_
    refine sr ?_
    refine la (Says.own .head) Tryd.isAgg26 Tryd.sizeOf26 rfl (Nat.zero_add _).symm rfl rfl ?_
    refine sa Tryd.sizeOf26 rfl rfl rfl rfl rfl (.tail (.tail .head)) ?_
    refine nl ?_
    refine drW .head ?_
    refine frW (Row.whole (e := 26) (size := 5) (m := 3) (ds := [.int .i64 0, .slice none 0 0, .bool a0.isNone, .slice al0 ((lT (T.at 0)).map tl_CreateTopicsRequestTopic).length cl0, .slice none 0 0, .int .i64 (IntKind.i32.wrap (T.at 1).n), .slice none 0 0, .bool false, .slice none 0 0, .slice none 0 0, .int .i64 (if (decide ((T.at 2).n % 2 = 1)) = true then 1 else 0), .slice none 0 0, .bool false, .slice none 0 0, .slice none 0 0]) rfl (by unfold maxLen; omega)) .head (fun H9 hle9 hz9 => ?_)
    have hrb : H9.at b_2 0 [.int .i64 0, .slice none 0 0, .bool a0.isNone, .slice al0 ((lT (T.at 0)).map tl_CreateTopicsRequestTopic).length cl0, .slice none 0 0, .int .i64 (IntKind.i32.wrap (T.at 1).n), .slice none 0 0, .bool false, .slice none 0 0, .slice none 0 0, .int .i64 (if (decide ((T.at 2).n % 2 = 1)) = true then 1 else 0), .slice none 0 0, .bool false, .slice none 0 0, .slice none 0 0] := by
      rcases hz9 with ⟨h, _⟩ | ⟨g, h, h2⟩
      · cases h
      · cases h; exact h2
    rw [(h1).nul] at hrb
    have hrb2 : H9.at b_2 0 (([((⟨none, 0, al0, cl0, none, 0⟩ : TC), (Tr.mk 0 [] (T.at 0).nul ((lT (T.at 0)).map tl_CreateTopicsRequestTopic) [] : Tr)), ((TC.none : TC), (Tr.mk (IntKind.i32.wrap (T.at 1).n) [] false [] [] : Tr)), ((TC.none : TC), (Tr.mk (if decide ((T.at 2).n % 2 = 1) = true then 1 else 0) [] false [] [] : Tr))] : List EE).flatMap fun p => p.1.cells p.2) := by exact hrb
    have hl9 : TreesAt H9 (some ⟨b_2, 0, none⟩) 3 [(.mk 0 [] (T.at 0).nul ((lT (T.at 0)).map tl_CreateTopicsRequestTopic) []), (.mk (IntKind.i32.wrap (T.at 1).n) [] false [] []), (.mk (if decide ((T.at 2).n % 2 = 1) = true then 1 else 0) [] false [] [])] := by
      refine TreesAt.row (es := [((⟨none, 0, al0, cl0, none, 0⟩ : TC), (Tr.mk 0 [] (T.at 0).nul ((lT (T.at 0)).map tl_CreateTopicsRequestTopic) [] : Tr)), ((TC.none : TC), (Tr.mk (IntKind.i32.wrap (T.at 1).n) [] false [] [] : Tr)), ((TC.none : TC), (Tr.mk (if decide ((T.at 2).n % 2 = 1) = true then 1 else 0) [] false [] [] : Tr))]) (.inr ⟨_, rfl, hrb2⟩) rfl (Nat.le_refl _) (Nat.le_of_ble_eq_true rfl) ?_
      intro p hp
      simp only [List.mem_cons, List.not_mem_nil, or_false] at hp
      rcases hp with rfl | rfl | rfl
      · exact (.of (.nil _) (ht0.mono (le_17.trans (hleU.trans hle9))) (.nil _))
      · exact (.of (.nil _) (.nil _) (.nil _))
      · exact (.of (.nil _) (.nil _) (.nil _))
    exact rC rfl Tryd.isAgg26 Tryd.sizeOf26 rfl .head rfl (le_5.trans (hll0.trans (le_17.trans (hleU.trans hle9)))) (fun _ _ h => h) ⟨rfl, ⟨none, 0, some ⟨b_2, 0, none⟩, 3, aU, cU⟩, rfl, .of (.nil _) hl9 (hU.mono hle9)⟩
end Go.Sx

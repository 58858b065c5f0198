import Derived.Test.YthgkgbaggjongaaGreatDoorBAlterPartitionAssignmentsRequest
import Derived.Test.YthgkgbaggjongaaGreatDoorTB
import Derived.KernelRfl
set_option linter.unusedVariables false
set_option linter.unusedSimpArgs false
set_option maxRecDepth 100000
set_option maxHeartbeats 20000000
namespace Go.Sx
open Go.Proofs
def tl_AlterPartitionAssignmentsRequestTopicPartition (T : Tr) : Tr := .mk 0 [] false [(.mk (IntKind.i32.wrap (T.at 0).n) [] false [] []), (.mk 0 [] (T.at 1).nul ((lT (T.at 1)).map (fun y : Tr => (Tr.mk (IntKind.i32.wrap y.n) [] false [] [] : Tr))) [])] T.u
theorem te_AlterPartitionAssignmentsRequestTopicPartition {H : Fz} {L : Own} {b o : Nat} {cs : List Value} {T : Tr} (hb : H.at b o cs) (hA : At_AlterPartitionAssignmentsRequestTopicPartition H T cs) (hf : Fits T) :
    Fn Tryz.prog 223 [.pointer (some ⟨b, o, none⟩)] H L (fun v H' L' => L = L' ∧ ∃ c : TC, v = .agg (c.cells (tl_AlterPartitionAssignmentsRequestTopicPartition T)).toArray ∧ TreeAt H' c (tl_AlterPartitionAssignmentsRequestTopicPartition T)) := by
  obtain ⟨a1, c1, mt, rfl, h1, h2⟩ := hA
  refine Fn.mk Tryz.call223 Tryz.func223 rfl Tryz.ntmps223 rfl ?_
  refine sr ?_
  refine al Tryz.zeroValue37 rfl rfl (fun b_1 => ?_)
  refine nl ?_
  refine sr ?_
  refine mkC (m := 2) (zs := [.int .i64 0, .slice none 0 0, .bool false, .slice none 0 0, .slice none 0 0]) Tryz.underlying34 I37 rfl rfl rfl rfl rfl rfl (by decide) (by unfold maxLen; omega) rfl (fun b_2 => ?_)
  refine bd' S37 rfl rfl rfl ?_
  refine al Tryz.zeroValue37 rfl rfl (fun b_3 => ?_)
  refine sa Tryz.sizeOf37 rfl rfl rfl rfl rfl .head ?_
  refine nl ?_
  refine sq ?_
  refine rgD 9 (.keep (.keep (.keep .nil))) mixed ?_
  refine dT 0 rfl rfl rfl (by kernel_rfl) (fun _ _ _ h => h) (y_fa0 F37_3 rfl) (.keep (.keep (.keep .nil))) (Fz.le.refl _) ?_
  refine dT 1 rfl rfl rfl (by kernel_rfl) (fun _ _ _ h => h) (y_ld (Says.own .head) Tryz.isAgg34 rfl (Nat.zero_add _).symm rfl) (.keep (.keep (.keep .nil))) (Fz.le.refl _) ?_
  refine dT 2 rfl rfl rfl (by kernel_rfl) (fun _ _ _ h => h) (y_mv rfl) (.keep (.keep (.keep .nil))) (Fz.le.refl _) ?_
  refine dT 3 rfl rfl rfl (by kernel_rfl) (fun _ _ _ h => h) (y_nc rfl) (.keep (.keep (.keep .nil))) (Fz.le.refl _) ?_
  refine dT 4 rfl rfl rfl (by kernel_rfl) (fun _ _ _ h => h) (y_fa F239_0 rfl) (.keep (.keep (.keep .nil))) (Fz.le.refl _) ?_
  refine dT 5 rfl rfl rfl (by kernel_rfl) (fun _ _ _ h => h) (y_ld (j := 0) (Says.fz hb) Tryz.isAgg21 rfl (Nat.add_zero _).symm rfl) (.keep (.keep (.keep .nil))) (Fz.le.refl _) ?_
  refine dT 6 rfl rfl rfl (by kernel_rfl) (fun _ _ _ h => h) (y_cv Tryz.runUnderlying21 Tryz.runUnderlying2 rfl (i32_64 _)) (.keep (.keep (.keep .nil))) (Fz.le.refl _) ?_
  refine dT 7 rfl rfl rfl (by kernel_rfl) (fun _ _ _ h => h) (y_bd S37 rfl rfl) (.keep (.keep (.keep .nil))) (Fz.le.refl _) ?_
  refine dT 8 rfl rfl rfl (by kernel_rfl) (fun _ _ _ h => h) (y_ix2 (j := 0) Tryz.runUnderlying34 Tryz.sizeOf37 rfl rfl rfl rfl (by decide)) (.keep (.keep (.keep .nil))) (Fz.le.refl _) ?_
  refine dE 9 (by kernel_rfl) rfl ?_
  refine sa Tryz.sizeOf37 rfl rfl rfl rfl rfl (.tail .head) ?_
  refine dNk (by kernel_rfl) ?_
  refine dD (by kernel_rfl) ?_
  refine Nt ?_
  refine sq ?_
  refine rgD 9 (.keep (.keep (.keep .nil))) mixed ?_
  refine dT 0 rfl rfl rfl (by kernel_rfl) (fun _ _ _ h => h) (y_fa0 F37_3 rfl) (.keep (.keep (.keep .nil))) (Fz.le.refl _) ?_
  refine dT 1 rfl rfl rfl (by kernel_rfl) (fun _ _ _ h => h) (y_ld (Says.own .head) Tryz.isAgg34 rfl (Nat.zero_add _).symm rfl) (.keep (.keep (.keep .nil))) (Fz.le.refl _) ?_
  refine dT 2 rfl rfl rfl (by kernel_rfl) (fun _ _ _ h => h) (y_mv rfl) (.keep (.keep (.keep .nil))) (Fz.le.refl _) ?_
  refine dT 3 rfl rfl rfl (by kernel_rfl) (fun _ _ _ h => h) (y_nc rfl) (.keep (.keep (.keep .nil))) (Fz.le.refl _) ?_
  refine dT 4 rfl rfl rfl (by kernel_rfl) (fun _ _ _ h => h) (y_fa F239_1 rfl) (.keep (.keep (.keep .nil))) (Fz.le.refl _) ?_
  refine dT 5 rfl rfl rfl (by kernel_rfl) (fun _ _ _ h => h) (y_ld (j := 1) (Says.fz hb) Tryz.isAgg227 rfl rfl rfl) (.keep (.keep (.keep .nil))) (Fz.le.refl _) ?_
  refine dT 6 rfl rfl rfl (by kernel_rfl) (fun _ _ _ h => h) (y_esn Tryz.underlying227 rfl) (.keep (.keep (.keep .nil))) (Fz.le.refl _) ?_
  refine dE 7 (by kernel_rfl) rfl ?_
  refine ixk (j := 1) Tryz.runUnderlying34 Tryz.sizeOf37 rfl rfl rfl rfl (by decide) rfl ?_
  refine dN (.keep (.keep (.keep .nil))) (Fz.le.refl _) ?_
  refine dT 8 rfl rfl rfl (by kernel_rfl) (fun _ _ _ h => h) (y_fa F37_2 rfl) (.keep (.keep (.keep .nil))) (Fz.le.refl _) ?_
  refine dE 9 (by kernel_rfl) rfl ?_
  refine st Tryz.sizeOf4 rfl rfl rfl rfl (.tail .head) ?_
  refine dNk (by kernel_rfl) ?_
  refine dD (by kernel_rfl) ?_
  refine Nt ?_
  refine sq ?_
  refine sr ?_
  refine mv rfl rfl ?_
  refine nc rfl rfl ?_
  refine fa F239_1 rfl rfl ?_
  refine ld (Says.fz hb) Tryz.isAgg227 rfl rfl rfl rfl ?_
  refine ls Tryz.runUnderlying227 rfl rfl ?_
  refine mv rfl rfl ?_
  refine nl ?_
  have hlm1 := (hf.at 1).lTl
  refine nulC2 ?_
  refine fr ((lT (T.at 1)).length) (fun k1 l' H' L' => ∃ (al1 : Option Addr), ∃ (ml1 : Nat), ∃ (cl1 : Nat), ∃ (es1 : List EE), ∃ (Nl1 : Chunk), [(0, .pointer (some ⟨b, o, none⟩)), (2, .pointer (some ⟨b_1, 0, none⟩)), (3, .pointer (some ⟨b_3, 0, none⟩)), (29, .int .i64 ((lT (T.at 1)).length : Int))] = l' ∧ Nl1 :: [(b_3, .cells [.int .i64 0, .slice none 0 0, .bool false, _, .slice none 0 0].toArray 37 (0, 0))] :: [(b_2, .cells [.int .i64 (IntKind.i32.wrap (T.at 0).n), .slice none 0 0, .bool false, .slice none 0 0, .slice none 0 0, .int .i64 0, .slice none 0 0, .bool a1.isNone, .slice al1 ml1 cl1, .slice none 0 0].toArray 37 (0, 0))] :: [(b_1, .cells [.int .i64 0, .slice none 0 0, .bool false, .slice none 0 0, .slice none 0 0].toArray 37 (0, 0))] :: L = L' ∧ Row 37 5 al1 ml1 cl1 (es1.flatMap f5) Nl1 ∧ ml1 = es1.length ∧ es1.map (·.2) = ((lT (T.at 1)).take k1).map (fun y : Tr => (Tr.mk (IntKind.i32.wrap y.n) [] false [] [] : Tr)) ∧ (∀ p : EE, p ∈ es1 → TreeAt H' p.1 p.2)) [(0, .pointer (some ⟨b, o, none⟩)), (2, .pointer (some ⟨b_1, 0, none⟩)), (3, .pointer (some ⟨b_3, 0, none⟩)), (29, .int .i64 ((lT (T.at 1)).length : Int))] (fun k1 l' H' L' h => ?_) (by omega) rfl (.cons rfl (.cons rfl (.cons rfl (.cons rfl (.nil _))))) ⟨none, 0, 0, [], [], rfl, rfl, (Row.nil _ _), rfl, (by simp), (fun p hp => by cases hp)⟩ rfl rfl rfl rfl rfl (fun k1 l' H' L' hk1 le_4 hI => ?_) (fun l' H' L' le_5 hI => ?_)
  · obtain ⟨al1, ml1, cl1, es1, Nl1, rfl, _⟩ := h; exact ⟨rfl, rfl, rfl, rfl⟩
  · skip
    obtain ⟨al1, ml1, cl1, es1, Nl1, rfl, rfl, pk10, pk11, pk12, pk13⟩ := hI
    refine sr ?_
    refine mv rfl rfl ?_
    refine asg rfl rfl ?_
    refine nl ?_
    refine sq ?_
    refine rgD 4 .nil mixed ?_
    refine dE 0 (by kernel_rfl) rfl ?_
    refine al Tryz.zeroValue4 rfl rfl (fun b_6 => ?_)
    refine dN .nil (Fz.le.refl _) ?_
    refine dE2 1 2 (by kernel_rfl) rfl rfl ?_ ?_
    · skip
      refine st Tryz.sizeOf4 rfl rfl rfl rfl .head ?_
      refine dN .nil (Fz.le.refl _) ?_
      refine dE 2 (by kernel_rfl) rfl ?_
      refine st Tryz.sizeOf4 rfl rfl rfl rfl .head ?_
      refine dN .nil (Fz.le.refl _) ?_
      refine dE 3 (by kernel_rfl) rfl ?_
      refine ld (Says.own .head) Tryz.isAgg4 rfl (Nat.zero_add _).symm rfl rfl ?_
      refine dN .nil (Fz.le.refl _) ?_
      refine dD (by kernel_rfl) ?_
      refine drN .head ?_
      refine Nt ?_
      refine cF rfl ?_
      refine rgD 20 (.skip (.keep (.keep (.keep .nil)))) mixed ?_
      refine dT 0 rfl rfl rfl (by kernel_rfl) (fun _ _ _ h => h) (y_fa0 F37_3 rfl) (.skip (.keep (.keep (.keep .nil)))) (Fz.le.refl _) ?_
      refine dT 1 rfl rfl rfl (by kernel_rfl) (fun _ _ _ h => h) (y_ld (Says.own .head) Tryz.isAgg34 rfl (Nat.zero_add _).symm rfl) (.skip (.keep (.keep (.keep .nil)))) (Fz.le.refl _) ?_
      refine dT 2 rfl rfl rfl (by kernel_rfl) (fun _ _ _ h => h) (y_fa0 F37_3 rfl) (.skip (.keep (.keep (.keep .nil)))) (Fz.le.refl _) ?_
      refine dT 3 rfl rfl rfl (by kernel_rfl) (fun _ _ _ h => h) (y_ld (Says.own .head) Tryz.isAgg34 rfl (Nat.zero_add _).symm rfl) (.skip (.keep (.keep (.keep .nil)))) (Fz.le.refl _) ?_
      refine dT 4 rfl rfl rfl (by kernel_rfl) (fun _ _ _ h => h) (y_ix2 (j := 1) Tryz.runUnderlying34 Tryz.sizeOf37 rfl rfl rfl rfl (by decide)) (.skip (.keep (.keep (.keep .nil)))) (Fz.le.refl _) ?_
      refine dT 5 rfl rfl rfl (by kernel_rfl) (fun _ _ _ h => h) (y_fa F37_3 rfl) (.skip (.keep (.keep (.keep .nil)))) (Fz.le.refl _) ?_
      refine dT 6 rfl rfl rfl (by kernel_rfl) (fun _ _ _ h => h) (y_ld (Says.own (.tail .head)) Tryz.isAgg34 rfl (Nat.zero_add _).symm rfl) (.skip (.keep (.keep (.keep .nil)))) (Fz.le.refl _) ?_
      refine dT 7 rfl rfl rfl (by kernel_rfl) (fun _ _ _ h => h) (y_mv rfl) (.skip (.keep (.keep (.keep .nil)))) (Fz.le.refl _) ?_
      refine dT 8 rfl rfl rfl (by kernel_rfl) (fun _ _ _ h => h) (y_nc rfl) (.skip (.keep (.keep (.keep .nil)))) (Fz.le.refl _) ?_
      refine dT 9 rfl rfl rfl (by kernel_rfl) (fun _ _ _ h => h) (y_fa F239_1 rfl) (.skip (.keep (.keep (.keep .nil)))) (Fz.le.refl _) ?_
      refine dT 10 rfl rfl rfl (by kernel_rfl) (fun _ _ _ h => h) (y_ld (j := 1) (Says.fz (hb.mono le_4)) Tryz.isAgg227 rfl rfl rfl) (.skip (.keep (.keep (.keep .nil)))) (Fz.le.refl _) ?_
      refine dT 11 rfl rfl rfl (by kernel_rfl) (fun _ _ _ h => h) (y_mv rfl) (.skip (.keep (.keep (.keep .nil)))) (Fz.le.refl _) ?_
      obtain ⟨beq_7, oeq_7, haq_7, hlq_7⟩ := ((h1.mono RI32.mono le_4)).rows.at_ (ne_nil_of_lt hk1)
      obtain ⟨ceq_7, hAq_7, hbq_7⟩ := hlq_7 k1 hk1
      obtain rfl : ceq_7 = [.int .i32 (IntKind.i32.wrap ((lT (T.at 1))[k1]).n)] := hAq_7
      refine dT 12 rfl rfl rfl (by kernel_rfl) (fun _ _ _ h => h) (y_ixk (j := k1) Tryz.runUnderlying227 Tryz.sizeOf21 rfl haq_7 rfl rfl hk1) (.skip (.keep (.keep (.keep .nil)))) (Fz.le.refl _) ?_
      refine dT 13 rfl rfl rfl (by kernel_rfl) (fun _ _ _ h => h) (y_ld (Says.fz hbq_7) Tryz.isAgg21 rfl (Nat.add_zero _).symm rfl) (.skip (.keep (.keep (.keep .nil)))) (Fz.le.refl _) ?_
      refine dT 14 rfl rfl rfl (by kernel_rfl) (fun _ _ _ h => h) (y_cv Tryz.runUnderlying21 Tryz.runUnderlying2 rfl (i32_64 _)) (.skip (.keep (.keep (.keep .nil)))) (Fz.le.refl _) ?_
      refine dT 15 rfl rfl rfl (by kernel_rfl) (fun _ _ _ h => h) (y_bd S37 rfl rfl) (.skip (.keep (.keep (.keep .nil)))) (Fz.le.refl _) ?_
      refine dE 16 (by kernel_rfl) rfl ?_
      refine bs' L34 rfl rfl rfl rfl (fun b_8 => ?_)
      refine dN (.skip (.skip (.keep (.keep (.keep .nil))))) (Fz.le.refl _) ?_
      refine dE 17 (by kernel_rfl) rfl ?_
      have hmk : ml1 = k1 := by have h1 := congrArg List.length pk12; rw [List.length_map, List.length_map, List.length_take] at h1; omega
      have hmb := (hf.at 1).lTl
      refine ap (k := 1) (news := f5 (((TC.none : TC), (Tr.mk (IntKind.i32.wrap ((lT (T.at 1))[k1]).n) [] false [] [] : Tr)) : EE)) Tryz.underlying34 I37 rfl rfl pk10 (fun _ => (.tail .head)) (src_says Tryz.underlying34 rfl (fun _ => Says.own .head) (f5_one _)) (by omega) (by unfold maxLen; omega) rfl (fun a72 c72 N72 r72 z72 => ?_)
      rw [flatMap_snoc'] at r72
      refine dN (.skip (.skip (.keep (.keep (.keep .nil))))) (Fz.le.refl _) ?_
      refine dE 18 (by kernel_rfl) rfl ?_
      refine ixk (j := 1) Tryz.runUnderlying34 Tryz.sizeOf37 rfl rfl rfl rfl (by decide) rfl ?_
      refine dN (.skip (.skip (.keep (.keep (.keep .nil))))) (Fz.le.refl _) ?_
      refine dT 19 rfl rfl rfl (by kernel_rfl) (fun _ _ _ h => h) (y_fa F37_3 rfl) (.skip (.skip (.keep (.keep (.keep .nil))))) (Fz.le.refl _) ?_
      refine dE 20 (by kernel_rfl) rfl ?_
      refine st Tryz.sizeOf34 rfl rfl rfl rfl (.tail (.tail (.tail .head))) ?_
      refine dNk (by kernel_rfl) ?_
      refine dD (by kernel_rfl) ?_
      refine Nb ?_
      refine drN .head ?_
      refine fun a_ w_ hA hw => ⟨_, _, _, hA.sub ?_, le_4, hw, _, rfl, a72, (ml1 + 1), c72, (es1 ++ [(((TC.none : TC), (Tr.mk (IntKind.i32.wrap ((lT (T.at 1))[k1]).n) [] false [] [] : Tr)) : EE)]), N72, rfl, rfl, r72, (by simp; omega), (map_take_snoc (g := (fun y : Tr => (Tr.mk (IntKind.i32.wrap y.n) [] false [] [] : Tr))) hk1 pk12), (fun p hp => (mem_snoc hp).elim (fun h => (pk13 p h).mono (Fz.le.refl _)) (fun h => h ▸ (.of (.nil _) (.nil _) (.nil _))))⟩
      exact (.cons rfl (.cons rfl (.cons rfl (.cons rfl (.cons rfl (.nil _))))))
    · skip
      refine st Tryz.sizeOf4 rfl rfl rfl rfl .head ?_
      refine dN .nil (Fz.le.refl _) ?_
      refine dE 1 (by kernel_rfl) rfl ?_
      refine st Tryz.sizeOf4 rfl rfl rfl rfl .head ?_
      refine dN .nil (Fz.le.refl _) ?_
      refine dE 3 (by kernel_rfl) rfl ?_
      refine ld (Says.own .head) Tryz.isAgg4 rfl (Nat.zero_add _).symm rfl rfl ?_
      refine dN .nil (Fz.le.refl _) ?_
      refine dD (by kernel_rfl) ?_
      refine drN .head ?_
      refine Nt ?_
      refine cT rfl ?_
      refine sq ?_
      refine rgD 19 (.skip (.keep (.keep (.keep .nil)))) mixed ?_
      refine dT 0 rfl rfl rfl (by kernel_rfl) (fun _ _ _ h => h) (y_fa0 F37_3 rfl) (.skip (.keep (.keep (.keep .nil)))) (Fz.le.refl _) ?_
      refine dT 1 rfl rfl rfl (by kernel_rfl) (fun _ _ _ h => h) (y_ld (Says.own .head) Tryz.isAgg34 rfl (Nat.zero_add _).symm rfl) (.skip (.keep (.keep (.keep .nil)))) (Fz.le.refl _) ?_
      refine dT 2 rfl rfl rfl (by kernel_rfl) (fun _ _ _ h => h) (y_ix2 (j := 1) Tryz.runUnderlying34 Tryz.sizeOf37 rfl rfl rfl rfl (by decide)) (.skip (.keep (.keep (.keep .nil)))) (Fz.le.refl _) ?_
      refine dT 3 rfl rfl rfl (by kernel_rfl) (fun _ _ _ h => h) (y_fa F37_3 rfl) (.skip (.keep (.keep (.keep .nil)))) (Fz.le.refl _) ?_
      refine dT 4 rfl rfl rfl (by kernel_rfl) (fun _ _ _ h => h) (y_ld (Says.own (.tail .head)) Tryz.isAgg34 rfl (Nat.zero_add _).symm rfl) (.skip (.keep (.keep (.keep .nil)))) (Fz.le.refl _) ?_
      refine dT 5 rfl rfl rfl (by kernel_rfl) (fun _ _ _ h => h) (y_mv rfl) (.skip (.keep (.keep (.keep .nil)))) (Fz.le.refl _) ?_
      refine dT 6 rfl rfl rfl (by kernel_rfl) (fun _ _ _ h => h) (y_nc rfl) (.skip (.keep (.keep (.keep .nil)))) (Fz.le.refl _) ?_
      refine dT 7 rfl rfl rfl (by kernel_rfl) (fun _ _ _ h => h) (y_fa F239_1 rfl) (.skip (.keep (.keep (.keep .nil)))) (Fz.le.refl _) ?_
      refine dT 8 rfl rfl rfl (by kernel_rfl) (fun _ _ _ h => h) (y_ld (j := 1) (Says.fz (hb.mono le_4)) Tryz.isAgg227 rfl rfl rfl) (.skip (.keep (.keep (.keep .nil)))) (Fz.le.refl _) ?_
      refine dT 9 rfl rfl rfl (by kernel_rfl) (fun _ _ _ h => h) (y_mv rfl) (.skip (.keep (.keep (.keep .nil)))) (Fz.le.refl _) ?_
      obtain ⟨beq_9, oeq_9, haq_9, hlq_9⟩ := ((h1.mono RI32.mono le_4)).rows.at_ (ne_nil_of_lt hk1)
      obtain ⟨ceq_9, hAq_9, hbq_9⟩ := hlq_9 k1 hk1
      obtain rfl : ceq_9 = [.int .i32 (IntKind.i32.wrap ((lT (T.at 1))[k1]).n)] := hAq_9
      refine dT 10 rfl rfl rfl (by kernel_rfl) (fun _ _ _ h => h) (y_ixk (j := k1) Tryz.runUnderlying227 Tryz.sizeOf21 rfl haq_9 rfl rfl hk1) (.skip (.keep (.keep (.keep .nil)))) (Fz.le.refl _) ?_
      refine dT 11 rfl rfl rfl (by kernel_rfl) (fun _ _ _ h => h) (y_ld (Says.fz hbq_9) Tryz.isAgg21 rfl (Nat.add_zero _).symm rfl) (.skip (.keep (.keep (.keep .nil)))) (Fz.le.refl _) ?_
      refine dT 12 rfl rfl rfl (by kernel_rfl) (fun _ _ _ h => h) (y_cv Tryz.runUnderlying21 Tryz.runUnderlying2 rfl (i32_64 _)) (.skip (.keep (.keep (.keep .nil)))) (Fz.le.refl _) ?_
      refine dT 13 rfl rfl rfl (by kernel_rfl) (fun _ _ _ h => h) (y_bd S37 rfl rfl) (.skip (.keep (.keep (.keep .nil)))) (Fz.le.refl _) ?_
      refine dT 14 rfl rfl rfl (by kernel_rfl) (fun _ _ _ h => h) (y_ls Tryz.runUnderlying34 rfl) (.skip (.keep (.keep (.keep .nil)))) (Fz.le.refl _) ?_
      refine dE 15 (by kernel_rfl) rfl ?_
      refine bs' L34 rfl rfl rfl rfl (fun b_10 => ?_)
      refine dN (.skip (.skip (.keep (.keep (.keep .nil))))) (Fz.le.refl _) ?_
      refine dE 16 (by kernel_rfl) rfl ?_
      have hmk : ml1 = k1 := by have h1 := congrArg List.length pk12; rw [List.length_map, List.length_map, List.length_take] at h1; omega
      have hmb := (hf.at 1).lTl
      refine ap (k := 1) (news := f5 ((TC.none, Tr.none) : EE)) Tryz.underlying34 I37 rfl rfl pk10 (fun _ => (.tail .head)) (src_says Tryz.underlying34 rfl (fun _ => Says.own .head) (f5_one _)) (by omega) (by unfold maxLen; omega) rfl (fun a51 c51 N51 r51 z51 => ?_)
      refine dN (.skip (.skip (.keep (.keep (.keep .nil))))) (Fz.le.refl _) ?_
      refine dE 17 (by kernel_rfl) rfl ?_
      refine ixk (j := 1) Tryz.runUnderlying34 Tryz.sizeOf37 rfl rfl rfl rfl (by decide) rfl ?_
      refine dN (.skip (.skip (.keep (.keep (.keep .nil))))) (Fz.le.refl _) ?_
      refine dT 18 rfl rfl rfl (by kernel_rfl) (fun _ _ _ h => h) (y_fa F37_3 rfl) (.skip (.skip (.keep (.keep (.keep .nil))))) (Fz.le.refl _) ?_
      refine dE 19 (by kernel_rfl) rfl ?_
      refine st Tryz.sizeOf34 rfl rfl rfl rfl (.tail (.tail (.tail .head))) ?_
      refine dNk (by kernel_rfl) ?_
      refine dD (by kernel_rfl) ?_
      refine Nt ?_
      refine rg ?_
      obtain ⟨gg51, hgg51⟩ := r51.addr (by omega)
      refine ixk (j := ml1) Tryz.runUnderlying34 Tryz.sizeOf37 rfl hgg51 rfl rfl (by omega) rfl ?_
      refine sR (ds := f5 (((TC.none : TC), (Tr.mk (IntKind.i32.wrap ((lT (T.at 1))[k1]).n) [] false [] [] : Tr)) : EE)) r51 hgg51 (fun _ => (.tail .head)) Tryz.sizeOf37 rfl rfl rfl rfl (by omega) (fun N51b r51b => ?_)
      rw [row_put (k := 5) (m := ml1) (A := es1.flatMap f5) (by rw [flatMap_len f5 5 f5_len, pk11]) rfl, flatMap_snoc'] at r51b
      refine nN ?_
      refine Nb ?_
      refine drN .head ?_
      refine fun a_ w_ hA hw => ⟨_, _, _, hA.sub ?_, le_4, hw, _, rfl, a51, (ml1 + 1), c51, (es1 ++ [(((TC.none : TC), (Tr.mk (IntKind.i32.wrap ((lT (T.at 1))[k1]).n) [] false [] [] : Tr)) : EE)]), N51b, rfl, rfl, r51b, (by simp; omega), (map_take_snoc (g := (fun y : Tr => (Tr.mk (IntKind.i32.wrap y.n) [] false [] [] : Tr))) hk1 pk12), (fun p hp => (mem_snoc hp).elim (fun h => (pk13 p h).mono (Fz.le.refl _)) (fun h => h ▸ (.of (.nil _) (.nil _) (.nil _))))⟩
      exact (.cons rfl (.cons rfl (.cons rfl (.cons rfl (.cons rfl (.nil _))))))
  · skip
    obtain ⟨al1, ml1, cl1, es1, Nl1, rfl, rfl, pk10, pk11, pk12, pk13⟩ := hI
    refine toWp ?_
    have hes1 : es1.map (·.2) = (lT (T.at 1)).map (fun y : Tr => (Tr.mk (IntKind.i32.wrap y.n) [] false [] [] : Tr)) := by rw [pk12, List.take_length]
    have hm1 : ml1 = ((lT (T.at 1)).map (fun y : Tr => (Tr.mk (IntKind.i32.wrap y.n) [] false [] [] : Tr))).length := by rw [← hes1, List.length_map]; exact pk11
    refine frW pk10 .head (fun Hl1 hll1 hzl1 => ?_)
    have ht1 := TreesAt.row hzl1 pk11 pk10.le.1 (by have h1 := congrArg List.length hes1; rw [List.length_map, List.length_map] at h1; unfold B47; omega) (fun p hp => (pk13 p hp).mono hll1)
    rw [hes1] at ht1
    subst hm1
    refine sr ?_
    refine mv rfl rfl ?_
    refine nc rfl rfl ?_
    refine fa F239_2 rfl rfl ?_
    refine mkf rfl rfl ?_
    have hkv_ := (h2.mono (le_5.trans hll1))
    obtain ⟨kvs, hM, hlen, hel⟩ := hkv_
    have hfu := hf.u
    refine cl rfl rfl rfl (t_each (j := 2) (I := fun i H1 Y => TgI 72 b_3 37 (.int .i64 0) (.slice none 0 0) (.bool false) (_) T.u i H1 Y) (hb.mono (le_5.trans hll1)) rfl hM (by omega) (fun i H1 H2 Y hle h => h.mono hle) TgI.start (fun i k v H1 Y L1 hi hle hI => ?_)) rfl (fun v_ H1 L1 le_12 hR_ => ?_)
    · obtain ⟨s, h1, ⟨va, vc, rfl, hx⟩, h2, h3⟩ := hel i k v hi
      have hik := sortKv_lt hi
      exact TgI.step (fun {_ _ _ _ _ _ _ _ _ _ _ _ _ _ _ _} => tc_297) hf.v (by omega) h1 (hx.mono hle) h2 h3 hI
    rw [hlen] at hR_
    obtain ⟨_, rfl, aU, cU, NU, esU, rfl, hrU, heU, hgU⟩ := hR_
    refine splL ?_
    rw [List.take_length] at heU
    refine frL hrU (.tail .head) (fun HU hleU hzU => ?_)
    have hU := (TagsAt.told hzU hrU heU hfu (fun p hp => (hgU p hp).mono hleU)).1
    refine nl ?_
    refine sr ?_
    refine fa0 F37_4 rfl rfl ?_
    refine ld (Says.own .head) Tryz.isAgg35 rfl (Nat.zero_add _).symm rfl rfl ?_
    refine cl rfl rfl rfl (k_sorted hU (h2.mono (le_5.trans (hll1.trans (le_12.trans hleU)))).rise) rfl (fun v_ H1 L1 hle_ hR_ => ?_)
    obtain ⟨rfl, rfl⟩ := hR_
    refine nl ?_
    refine sr ?_
    refine la (Says.own .head) Tryz.isAgg37 Tryz.sizeOf37 rfl (Nat.zero_add _).symm rfl rfl ?_
    refine sa Tryz.sizeOf37 rfl rfl rfl rfl rfl (.tail (.tail .head)) ?_
    refine nl ?_
    refine drW .head ?_
    refine frW (Row.whole (e := 37) (size := 5) (m := 2) (ds := [.int .i64 (IntKind.i32.wrap (T.at 0).n), .slice none 0 0, .bool false, .slice none 0 0, .slice none 0 0, .int .i64 0, .slice none 0 0, .bool a1.isNone, .slice al1 ((lT (T.at 1)).map (fun y : Tr => (Tr.mk (IntKind.i32.wrap y.n) [] false [] [] : Tr))).length cl1, .slice none 0 0]) rfl (by unfold maxLen; omega)) .head (fun H9 hle9 hz9 => ?_)
    have hrb : H9.at b_2 0 [.int .i64 (IntKind.i32.wrap (T.at 0).n), .slice none 0 0, .bool false, .slice none 0 0, .slice none 0 0, .int .i64 0, .slice none 0 0, .bool a1.isNone, .slice al1 ((lT (T.at 1)).map (fun y : Tr => (Tr.mk (IntKind.i32.wrap y.n) [] false [] [] : Tr))).length cl1, .slice none 0 0] := by
      rcases hz9 with ⟨h, _⟩ | ⟨g, h, h2⟩
      · cases h
      · cases h; exact h2
    rw [(h1).nul] at hrb
    have hrb2 : H9.at b_2 0 (([((TC.none : TC), (Tr.mk (IntKind.i32.wrap (T.at 0).n) [] false [] [] : Tr)), ((⟨none, 0, al1, cl1, none, 0⟩ : TC), (Tr.mk 0 [] (T.at 1).nul ((lT (T.at 1)).map (fun y : Tr => (Tr.mk (IntKind.i32.wrap y.n) [] false [] [] : Tr))) [] : Tr))] : List EE).flatMap fun p => p.1.cells p.2) := by exact hrb
    have hl9 : TreesAt H9 (some ⟨b_2, 0, none⟩) 2 [(.mk (IntKind.i32.wrap (T.at 0).n) [] false [] []), (.mk 0 [] (T.at 1).nul ((lT (T.at 1)).map (fun y : Tr => (Tr.mk (IntKind.i32.wrap y.n) [] false [] [] : Tr))) [])] := by
      refine TreesAt.row (es := [((TC.none : TC), (Tr.mk (IntKind.i32.wrap (T.at 0).n) [] false [] [] : Tr)), ((⟨none, 0, al1, cl1, none, 0⟩ : TC), (Tr.mk 0 [] (T.at 1).nul ((lT (T.at 1)).map (fun y : Tr => (Tr.mk (IntKind.i32.wrap y.n) [] false [] [] : Tr))) [] : Tr))]) (.inr ⟨_, rfl, hrb2⟩) rfl (Nat.le_refl _) (Nat.le_of_ble_eq_true rfl) ?_
      intro p hp
      simp only [List.mem_cons, List.not_mem_nil, or_false] at hp
      rcases hp with rfl | rfl
      · exact (.of (.nil _) (.nil _) (.nil _))
      · exact (.of (.nil _) (ht1.mono (le_12.trans (hleU.trans hle9))) (.nil _))
    exact rC rfl Tryz.isAgg37 Tryz.sizeOf37 rfl .head rfl (le_5.trans (hll1.trans (le_12.trans (hleU.trans hle9)))) (fun _ _ h => h) ⟨rfl, ⟨none, 0, some ⟨b_2, 0, none⟩, 2, aU, cU⟩, rfl, .of (.nil _) hl9 (hU.mono hle9)⟩
def tl_AlterPartitionAssignmentsRequestTopic (T : Tr) : Tr := .mk 0 [] false [(.mk 0 (T.at 0).s false [] []), (.mk 0 [] (T.at 1).nul ((lT (T.at 1)).map tl_AlterPartitionAssignmentsRequestTopicPartition) [])] T.u
theorem te_AlterPartitionAssignmentsRequestTopic {H : Fz} {L : Own} {b o : Nat} {cs : List Value} {T : Tr} (hb : H.at b o cs) (hA : At_AlterPartitionAssignmentsRequestTopic H T cs) (hf : Fits T) :
    Fn Tryz.prog 139 [.pointer (some ⟨b, o, none⟩)] H L (fun v H' L' => L = L' ∧ ∃ c : TC, v = .agg (c.cells (tl_AlterPartitionAssignmentsRequestTopic T)).toArray ∧ TreeAt H' c (tl_AlterPartitionAssignmentsRequestTopic T)) := by
  obtain ⟨a1, c1, mt, rfl, h1, h2⟩ := hA
  refine Fn.mk Tryz.call139 Tryz.func139 rfl Tryz.ntmps139 rfl ?_
  refine sr ?_
  refine al Tryz.zeroValue37 rfl rfl (fun b_1 => ?_)
  refine nl ?_
  refine sr ?_
  refine mkC (m := 2) (zs := [.int .i64 0, .slice none 0 0, .bool false, .slice none 0 0, .slice none 0 0]) Tryz.underlying34 I37 rfl rfl rfl rfl rfl rfl (by decide) (by unfold maxLen; omega) rfl (fun b_2 => ?_)
  refine bd' S37 rfl rfl rfl ?_
  refine al Tryz.zeroValue37 rfl rfl (fun b_3 => ?_)
  refine sa Tryz.sizeOf37 rfl rfl rfl rfl rfl .head ?_
  refine nl ?_
  refine sq ?_
  refine rgD 9 (.keep (.keep (.keep .nil))) mixed ?_
  refine dT 0 rfl rfl rfl (by kernel_rfl) (fun _ _ _ h => h) (y_fa0 F37_3 rfl) (.keep (.keep (.keep .nil))) (Fz.le.refl _) ?_
  refine dT 1 rfl rfl rfl (by kernel_rfl) (fun _ _ _ h => h) (y_ld (Says.own .head) Tryz.isAgg34 rfl (Nat.zero_add _).symm rfl) (.keep (.keep (.keep .nil))) (Fz.le.refl _) ?_
  refine dT 2 rfl rfl rfl (by kernel_rfl) (fun _ _ _ h => h) (y_mv rfl) (.keep (.keep (.keep .nil))) (Fz.le.refl _) ?_
  refine dT 3 rfl rfl rfl (by kernel_rfl) (fun _ _ _ h => h) (y_nc rfl) (.keep (.keep (.keep .nil))) (Fz.le.refl _) ?_
  refine dT 4 rfl rfl rfl (by kernel_rfl) (fun _ _ _ h => h) (y_fa F114_0 rfl) (.keep (.keep (.keep .nil))) (Fz.le.refl _) ?_
  refine dT 5 rfl rfl rfl (by kernel_rfl) (fun _ _ _ h => h) (y_ld (j := 0) (Says.fz hb) Tryz.isAgg9 rfl (Nat.add_zero _).symm rfl) (.keep (.keep (.keep .nil))) (Fz.le.refl _) ?_
  refine dE 6 (by kernel_rfl) rfl ?_
  refine csb Tryz.underlying9 Tryz.underlying22 Tryz.underlying5 rfl (by have := (hf.at 0).s; unfold B47; omega) rfl (fun Hb13 b13 cp13 le_4 hb13 => ?_)
  refine dN (.keep (.keep (.keep .nil))) le_4 ?_
  refine dT 7 rfl rfl rfl (by kernel_rfl) (fun _ _ _ h => h) (y_bd S37 rfl rfl) (.keep (.keep (.keep .nil))) le_4 ?_
  refine dT 8 rfl rfl rfl (by kernel_rfl) (fun _ _ _ h => h) (y_ix2 (j := 0) Tryz.runUnderlying34 Tryz.sizeOf37 rfl rfl rfl rfl (by decide)) (.keep (.keep (.keep .nil))) le_4 ?_
  refine dE 9 (by kernel_rfl) rfl ?_
  refine sa Tryz.sizeOf37 rfl rfl rfl rfl rfl (.tail .head) ?_
  refine dNk (by kernel_rfl) ?_
  refine dD (by kernel_rfl) ?_
  refine Nt ?_
  refine sq ?_
  refine rgD 9 (.keep (.keep (.keep .nil))) mixed ?_
  refine dT 0 rfl rfl rfl (by kernel_rfl) (fun _ _ _ h => h) (y_fa0 F37_3 rfl) (.keep (.keep (.keep .nil))) (Fz.le.refl _) ?_
  refine dT 1 rfl rfl rfl (by kernel_rfl) (fun _ _ _ h => h) (y_ld (Says.own .head) Tryz.isAgg34 rfl (Nat.zero_add _).symm rfl) (.keep (.keep (.keep .nil))) (Fz.le.refl _) ?_
  refine dT 2 rfl rfl rfl (by kernel_rfl) (fun _ _ _ h => h) (y_mv rfl) (.keep (.keep (.keep .nil))) (Fz.le.refl _) ?_
  refine dT 3 rfl rfl rfl (by kernel_rfl) (fun _ _ _ h => h) (y_nc rfl) (.keep (.keep (.keep .nil))) (Fz.le.refl _) ?_
  refine dT 4 rfl rfl rfl (by kernel_rfl) (fun _ _ _ h => h) (y_fa F114_1 rfl) (.keep (.keep (.keep .nil))) (Fz.le.refl _) ?_
  refine dT 5 rfl rfl rfl (by kernel_rfl) (fun _ _ _ h => h) (y_ld (j := 1) (Says.fz (hb.mono le_4)) Tryz.isAgg112 rfl rfl rfl) (.keep (.keep (.keep .nil))) (Fz.le.refl _) ?_
  refine dT 6 rfl rfl rfl (by kernel_rfl) (fun _ _ _ h => h) (y_esn Tryz.underlying112 rfl) (.keep (.keep (.keep .nil))) (Fz.le.refl _) ?_
  refine dE 7 (by kernel_rfl) rfl ?_
  refine ixk (j := 1) Tryz.runUnderlying34 Tryz.sizeOf37 rfl rfl rfl rfl (by decide) rfl ?_
  refine dN (.keep (.keep (.keep .nil))) (Fz.le.refl _) ?_
  refine dT 8 rfl rfl rfl (by kernel_rfl) (fun _ _ _ h => h) (y_fa F37_2 rfl) (.keep (.keep (.keep .nil))) (Fz.le.refl _) ?_
  refine dE 9 (by kernel_rfl) rfl ?_
  refine st Tryz.sizeOf4 rfl rfl rfl rfl (.tail .head) ?_
  refine dNk (by kernel_rfl) ?_
  refine dD (by kernel_rfl) ?_
  refine Nt ?_
  refine sq ?_
  refine sr ?_
  refine mv rfl rfl ?_
  refine nc rfl rfl ?_
  refine fa F114_1 rfl rfl ?_
  refine ld (Says.fz (hb.mono le_4)) Tryz.isAgg112 rfl rfl rfl rfl ?_
  refine ls Tryz.runUnderlying112 rfl rfl ?_
  refine mv rfl rfl ?_
  refine nl ?_
  have hlm1 := (hf.at 1).lTl
  refine nulC2 ?_
  refine fr ((lT (T.at 1)).length) (fun k1 l' H' L' => ∃ (al1 : Option Addr), ∃ (ml1 : Nat), ∃ (cl1 : Nat), ∃ (es1 : List EE), ∃ (Nl1 : Chunk), [(0, .pointer (some ⟨b, o, none⟩)), (2, .pointer (some ⟨b_1, 0, none⟩)), (3, .pointer (some ⟨b_3, 0, none⟩)), (29, .int .i64 ((lT (T.at 1)).length : Int))] = l' ∧ Nl1 :: [(b_3, .cells [.int .i64 0, .slice none 0 0, .bool false, _, .slice none 0 0].toArray 37 (0, 0))] :: [(b_2, .cells [.int .i64 0, .slice (some ⟨b13, 0, none⟩) (T.at 0).s.length cp13, .bool false, .slice none 0 0, .slice none 0 0, .int .i64 0, .slice none 0 0, .bool a1.isNone, .slice al1 ml1 cl1, .slice none 0 0].toArray 37 (0, 0))] :: [(b_1, .cells [.int .i64 0, .slice none 0 0, .bool false, .slice none 0 0, .slice none 0 0].toArray 37 (0, 0))] :: L = L' ∧ Row 37 5 al1 ml1 cl1 (es1.flatMap f5) Nl1 ∧ ml1 = es1.length ∧ es1.map (·.2) = ((lT (T.at 1)).take k1).map tl_AlterPartitionAssignmentsRequestTopicPartition ∧ (∀ p : EE, p ∈ es1 → TreeAt H' p.1 p.2)) [(0, .pointer (some ⟨b, o, none⟩)), (2, .pointer (some ⟨b_1, 0, none⟩)), (3, .pointer (some ⟨b_3, 0, none⟩)), (29, .int .i64 ((lT (T.at 1)).length : Int))] (fun k1 l' H' L' h => ?_) (by omega) rfl (.cons rfl (.cons rfl (.cons rfl (.cons rfl (.nil _))))) ⟨none, 0, 0, [], [], rfl, rfl, (Row.nil _ _), rfl, (by simp), (fun p hp => by cases hp)⟩ rfl rfl rfl rfl rfl (fun k1 l' H' L' hk1 le_5 hI => ?_) (fun l' H' L' le_6 hI => ?_)
  · obtain ⟨al1, ml1, cl1, es1, Nl1, rfl, _⟩ := h; exact ⟨rfl, rfl, rfl, rfl⟩
  · skip
    obtain ⟨al1, ml1, cl1, es1, Nl1, rfl, rfl, pk10, pk11, pk12, pk13⟩ := hI
    refine sr ?_
    refine mv rfl rfl ?_
    refine asg rfl rfl ?_
    refine nl ?_
    refine sq ?_
    refine rgD 4 .nil mixed ?_
    refine dE 0 (by kernel_rfl) rfl ?_
    refine al Tryz.zeroValue4 rfl rfl (fun b_7 => ?_)
    refine dN .nil (Fz.le.refl _) ?_
    refine dE2 1 2 (by kernel_rfl) rfl rfl ?_ ?_
    · skip
      refine st Tryz.sizeOf4 rfl rfl rfl rfl .head ?_
      refine dN .nil (Fz.le.refl _) ?_
      refine dE 2 (by kernel_rfl) rfl ?_
      refine st Tryz.sizeOf4 rfl rfl rfl rfl .head ?_
      refine dN .nil (Fz.le.refl _) ?_
      refine dE 3 (by kernel_rfl) rfl ?_
      refine ld (Says.own .head) Tryz.isAgg4 rfl (Nat.zero_add _).symm rfl rfl ?_
      refine dN .nil (Fz.le.refl _) ?_
      refine dD (by kernel_rfl) ?_
      refine drN .head ?_
      refine Nt ?_
      refine cF rfl ?_
      refine rgD 18 (.skip (.keep (.keep (.keep .nil)))) mixed ?_
      refine dT 0 rfl rfl rfl (by kernel_rfl) (fun _ _ _ h => h) (y_fa0 F37_3 rfl) (.skip (.keep (.keep (.keep .nil)))) (Fz.le.refl _) ?_
      refine dT 1 rfl rfl rfl (by kernel_rfl) (fun _ _ _ h => h) (y_ld (Says.own .head) Tryz.isAgg34 rfl (Nat.zero_add _).symm rfl) (.skip (.keep (.keep (.keep .nil)))) (Fz.le.refl _) ?_
      refine dT 2 rfl rfl rfl (by kernel_rfl) (fun _ _ _ h => h) (y_fa0 F37_3 rfl) (.skip (.keep (.keep (.keep .nil)))) (Fz.le.refl _) ?_
      refine dT 3 rfl rfl rfl (by kernel_rfl) (fun _ _ _ h => h) (y_ld (Says.own .head) Tryz.isAgg34 rfl (Nat.zero_add _).symm rfl) (.skip (.keep (.keep (.keep .nil)))) (Fz.le.refl _) ?_
      refine dT 4 rfl rfl rfl (by kernel_rfl) (fun _ _ _ h => h) (y_ix2 (j := 1) Tryz.runUnderlying34 Tryz.sizeOf37 rfl rfl rfl rfl (by decide)) (.skip (.keep (.keep (.keep .nil)))) (Fz.le.refl _) ?_
      refine dT 5 rfl rfl rfl (by kernel_rfl) (fun _ _ _ h => h) (y_fa F37_3 rfl) (.skip (.keep (.keep (.keep .nil)))) (Fz.le.refl _) ?_
      refine dT 6 rfl rfl rfl (by kernel_rfl) (fun _ _ _ h => h) (y_ld (Says.own (.tail .head)) Tryz.isAgg34 rfl (Nat.zero_add _).symm rfl) (.skip (.keep (.keep (.keep .nil)))) (Fz.le.refl _) ?_
      refine dT 7 rfl rfl rfl (by kernel_rfl) (fun _ _ _ h => h) (y_mv rfl) (.skip (.keep (.keep (.keep .nil)))) (Fz.le.refl _) ?_
      refine dT 8 rfl rfl rfl (by kernel_rfl) (fun _ _ _ h => h) (y_nc rfl) (.skip (.keep (.keep (.keep .nil)))) (Fz.le.refl _) ?_
      refine dT 9 rfl rfl rfl (by kernel_rfl) (fun _ _ _ h => h) (y_fa F114_1 rfl) (.skip (.keep (.keep (.keep .nil)))) (Fz.le.refl _) ?_
      refine dT 10 rfl rfl rfl (by kernel_rfl) (fun _ _ _ h => h) (y_ld (j := 1) (Says.fz (hb.mono (le_4.trans le_5))) Tryz.isAgg112 rfl rfl rfl) (.skip (.keep (.keep (.keep .nil)))) (Fz.le.refl _) ?_
      refine dT 11 rfl rfl rfl (by kernel_rfl) (fun _ _ _ h => h) (y_mv rfl) (.skip (.keep (.keep (.keep .nil)))) (Fz.le.refl _) ?_
      obtain ⟨beq_8, oeq_8, haq_8, hlq_8⟩ := ((h1.mono At_AlterPartitionAssignmentsRequestTopicPartition.mono (le_4.trans le_5))).rows.at_ (ne_nil_of_lt hk1)
      obtain ⟨ceq_8, hAq_8, hbq_8⟩ := hlq_8 k1 hk1
      refine dT 12 rfl rfl rfl (by kernel_rfl) (fun _ _ _ h => h) (y_ixk (j := k1) Tryz.runUnderlying112 Tryz.sizeOf239 rfl haq_8 rfl rfl hk1) (.skip (.keep (.keep (.keep .nil)))) (Fz.le.refl _) ?_
      refine dE 13 (by kernel_rfl) rfl ?_
      refine cl rfl rfl rfl (te_AlterPartitionAssignmentsRequestTopicPartition hbq_8 (At_AlterPartitionAssignmentsRequestTopicPartition.mono _ _ _ _ (Fz.le.refl _) hAq_8) ((hf.at 1).lTel (List.getElem_mem hk1))) rfl (fun v_ H1 L1 le_9 hR_ => ?_)
      obtain ⟨rfl, ct66, rfl, hT66⟩ := hR_
      refine dN (.skip (.keep (.keep (.keep .nil)))) le_9 ?_
      refine dE 14 (by kernel_rfl) rfl ?_
      refine bs' L34 rfl rfl rfl rfl (fun b_10 => ?_)
      refine dN (.skip (.skip (.keep (.keep (.keep .nil))))) le_9 ?_
      refine dE 15 (by kernel_rfl) rfl ?_
      have hmk : ml1 = k1 := by have h1 := congrArg List.length pk12; rw [List.length_map, List.length_map, List.length_take] at h1; omega
      have hmb := (hf.at 1).lTl
      refine ap (k := 1) (news := f5 ((ct66, tl_AlterPartitionAssignmentsRequestTopicPartition (lT (T.at 1))[k1]) : EE)) Tryz.underlying34 I37 rfl rfl pk10 (fun _ => (.tail .head)) (src_says Tryz.underlying34 rfl (fun _ => Says.own .head) (f5_one _)) (by omega) (by unfold maxLen; omega) rfl (fun a68 c68 N68 r68 z68 => ?_)
      rw [flatMap_snoc'] at r68
      refine dN (.skip (.skip (.keep (.keep (.keep .nil))))) le_9 ?_
      refine dE 16 (by kernel_rfl) rfl ?_
      refine ixk (j := 1) Tryz.runUnderlying34 Tryz.sizeOf37 rfl rfl rfl rfl (by decide) rfl ?_
      refine dN (.skip (.skip (.keep (.keep (.keep .nil))))) le_9 ?_
      refine dT 17 rfl rfl rfl (by kernel_rfl) (fun _ _ _ h => h) (y_fa F37_3 rfl) (.skip (.skip (.keep (.keep (.keep .nil))))) le_9 ?_
      refine dE 18 (by kernel_rfl) rfl ?_
      refine st Tryz.sizeOf34 rfl rfl rfl rfl (.tail (.tail (.tail .head))) ?_
      refine dNk (by kernel_rfl) ?_
      refine dD (by kernel_rfl) ?_
      refine Nb ?_
      refine drN .head ?_
      refine fun a_ w_ hA hw => ⟨_, _, _, hA.sub ?_, (le_5.trans le_9), hw, _, rfl, a68, (ml1 + 1), c68, (es1 ++ [((ct66, tl_AlterPartitionAssignmentsRequestTopicPartition (lT (T.at 1))[k1]) : EE)]), N68, rfl, rfl, r68, (by simp; omega), (map_take_snoc (g := tl_AlterPartitionAssignmentsRequestTopicPartition) hk1 pk12), (fun p hp => (mem_snoc hp).elim (fun h => (pk13 p h).mono le_9) (fun h => h ▸ hT66))⟩
      exact (.cons rfl (.cons rfl (.cons rfl (.cons rfl (.cons rfl (.nil _))))))
    · skip
      refine st Tryz.sizeOf4 rfl rfl rfl rfl .head ?_
      refine dN .nil (Fz.le.refl _) ?_
      refine dE 1 (by kernel_rfl) rfl ?_
      refine st Tryz.sizeOf4 rfl rfl rfl rfl .head ?_
      refine dN .nil (Fz.le.refl _) ?_
      refine dE 3 (by kernel_rfl) rfl ?_
      refine ld (Says.own .head) Tryz.isAgg4 rfl (Nat.zero_add _).symm rfl rfl ?_
      refine dN .nil (Fz.le.refl _) ?_
      refine dD (by kernel_rfl) ?_
      refine drN .head ?_
      refine Nt ?_
      refine cT rfl ?_
      refine sq ?_
      refine rgD 17 (.skip (.keep (.keep (.keep .nil)))) mixed ?_
      refine dT 0 rfl rfl rfl (by kernel_rfl) (fun _ _ _ h => h) (y_fa0 F37_3 rfl) (.skip (.keep (.keep (.keep .nil)))) (Fz.le.refl _) ?_
      refine dT 1 rfl rfl rfl (by kernel_rfl) (fun _ _ _ h => h) (y_ld (Says.own .head) Tryz.isAgg34 rfl (Nat.zero_add _).symm rfl) (.skip (.keep (.keep (.keep .nil)))) (Fz.le.refl _) ?_
      refine dT 2 rfl rfl rfl (by kernel_rfl) (fun _ _ _ h => h) (y_ix2 (j := 1) Tryz.runUnderlying34 Tryz.sizeOf37 rfl rfl rfl rfl (by decide)) (.skip (.keep (.keep (.keep .nil)))) (Fz.le.refl _) ?_
      refine dT 3 rfl rfl rfl (by kernel_rfl) (fun _ _ _ h => h) (y_fa F37_3 rfl) (.skip (.keep (.keep (.keep .nil)))) (Fz.le.refl _) ?_
      refine dT 4 rfl rfl rfl (by kernel_rfl) (fun _ _ _ h => h) (y_ld (Says.own (.tail .head)) Tryz.isAgg34 rfl (Nat.zero_add _).symm rfl) (.skip (.keep (.keep (.keep .nil)))) (Fz.le.refl _) ?_
      refine dT 5 rfl rfl rfl (by kernel_rfl) (fun _ _ _ h => h) (y_mv rfl) (.skip (.keep (.keep (.keep .nil)))) (Fz.le.refl _) ?_
      refine dT 6 rfl rfl rfl (by kernel_rfl) (fun _ _ _ h => h) (y_nc rfl) (.skip (.keep (.keep (.keep .nil)))) (Fz.le.refl _) ?_
      refine dT 7 rfl rfl rfl (by kernel_rfl) (fun _ _ _ h => h) (y_fa F114_1 rfl) (.skip (.keep (.keep (.keep .nil)))) (Fz.le.refl _) ?_
      refine dT 8 rfl rfl rfl (by kernel_rfl) (fun _ _ _ h => h) (y_ld (j := 1) (Says.fz (hb.mono (le_4.trans le_5))) Tryz.isAgg112 rfl rfl rfl) (.skip (.keep (.keep (.keep .nil)))) (Fz.le.refl _) ?_
      refine dT 9 rfl rfl rfl (by kernel_rfl) (fun _ _ _ h => h) (y_mv rfl) (.skip (.keep (.keep (.keep .nil)))) (Fz.le.refl _) ?_
      obtain ⟨beq_11, oeq_11, haq_11, hlq_11⟩ := ((h1.mono At_AlterPartitionAssignmentsRequestTopicPartition.mono (le_4.trans le_5))).rows.at_ (ne_nil_of_lt hk1)
      obtain ⟨ceq_11, hAq_11, hbq_11⟩ := hlq_11 k1 hk1
      refine dT 10 rfl rfl rfl (by kernel_rfl) (fun _ _ _ h => h) (y_ixk (j := k1) Tryz.runUnderlying112 Tryz.sizeOf239 rfl haq_11 rfl rfl hk1) (.skip (.keep (.keep (.keep .nil)))) (Fz.le.refl _) ?_
      refine dT 12 rfl rfl rfl (by kernel_rfl) (fun _ _ _ h => h) (y_ls Tryz.runUnderlying34 rfl) (.skip (.keep (.keep (.keep .nil)))) (Fz.le.refl _) ?_
      refine dE2 11 13 (by kernel_rfl) rfl rfl ?_ ?_
      · skip
        refine cl rfl rfl rfl (te_AlterPartitionAssignmentsRequestTopicPartition hbq_11 (At_AlterPartitionAssignmentsRequestTopicPartition.mono _ _ _ _ (Fz.le.refl _) hAq_11) ((hf.at 1).lTel (List.getElem_mem hk1))) rfl (fun v_ H1 L1 le_12 hR_ => ?_)
        obtain ⟨rfl, ct46, rfl, hT46⟩ := hR_
        refine dN (.skip (.keep (.keep (.keep .nil)))) le_12 ?_
        refine dE 13 (by kernel_rfl) rfl ?_
        refine bs' L34 rfl rfl rfl rfl (fun b_13 => ?_)
        refine dN (.skip (.skip (.keep (.keep (.keep .nil))))) le_12 ?_
        refine dE 14 (by kernel_rfl) rfl ?_
        have hmk : ml1 = k1 := by have h1 := congrArg List.length pk12; rw [List.length_map, List.length_map, List.length_take] at h1; omega
        have hmb := (hf.at 1).lTl
        refine ap (k := 1) (news := f5 ((TC.none, Tr.none) : EE)) Tryz.underlying34 I37 rfl rfl pk10 (fun _ => (.tail .head)) (src_says Tryz.underlying34 rfl (fun _ => Says.own .head) (f5_one _)) (by omega) (by unfold maxLen; omega) rfl (fun a49 c49 N49 r49 z49 => ?_)
        refine dN (.skip (.skip (.keep (.keep (.keep .nil))))) le_12 ?_
        refine dE 15 (by kernel_rfl) rfl ?_
        refine ixk (j := 1) Tryz.runUnderlying34 Tryz.sizeOf37 rfl rfl rfl rfl (by decide) rfl ?_
        refine dN (.skip (.skip (.keep (.keep (.keep .nil))))) le_12 ?_
        refine dT 16 rfl rfl rfl (by kernel_rfl) (fun _ _ _ h => h) (y_fa F37_3 rfl) (.skip (.skip (.keep (.keep (.keep .nil))))) le_12 ?_
        refine dE 17 (by kernel_rfl) rfl ?_
        refine st Tryz.sizeOf34 rfl rfl rfl rfl (.tail (.tail (.tail .head))) ?_
        refine dNk (by kernel_rfl) ?_
        refine dD (by kernel_rfl) ?_
        refine Nt ?_
        refine rg ?_
        obtain ⟨gg49, hgg49⟩ := r49.addr (by omega)
        refine ixk (j := ml1) Tryz.runUnderlying34 Tryz.sizeOf37 rfl hgg49 rfl rfl (by omega) rfl ?_
        refine sR (ds := f5 ((ct46, tl_AlterPartitionAssignmentsRequestTopicPartition (lT (T.at 1))[k1]) : EE)) r49 hgg49 (fun _ => (.tail .head)) Tryz.sizeOf37 rfl rfl rfl rfl (by omega) (fun N49b r49b => ?_)
        rw [row_put (k := 5) (m := ml1) (A := es1.flatMap f5) (by rw [flatMap_len f5 5 f5_len, pk11]) rfl, flatMap_snoc'] at r49b
        refine nN ?_
        refine Nb ?_
        refine drN .head ?_
        refine fun a_ w_ hA hw => ⟨_, _, _, hA.sub ?_, (le_5.trans le_12), hw, _, rfl, a49, (ml1 + 1), c49, (es1 ++ [((ct46, tl_AlterPartitionAssignmentsRequestTopicPartition (lT (T.at 1))[k1]) : EE)]), N49b, rfl, rfl, r49b, (by simp; omega), (map_take_snoc (g := tl_AlterPartitionAssignmentsRequestTopicPartition) hk1 pk12), (fun p hp => (mem_snoc hp).elim (fun h => (pk13 p h).mono le_12) (fun h => h ▸ hT46))⟩
        exact (.cons rfl (.cons rfl (.cons rfl (.cons rfl (.cons rfl (.nil _))))))
      · skip
        refine bs' L34 rfl rfl rfl rfl (fun b_14 => ?_)
        refine dN (.skip (.skip (.keep (.keep (.keep .nil))))) (Fz.le.refl _) ?_
        refine dE 11 (by kernel_rfl) rfl ?_
        refine cl rfl rfl rfl (te_AlterPartitionAssignmentsRequestTopicPartition hbq_11 (At_AlterPartitionAssignmentsRequestTopicPartition.mono _ _ _ _ (Fz.le.refl _) hAq_11) ((hf.at 1).lTel (List.getElem_mem hk1))) rfl (fun v_ H1 L1 le_15 hR_ => ?_)
        obtain ⟨rfl, ct46, rfl, hT46⟩ := hR_
        refine dN (.skip (.skip (.keep (.keep (.keep .nil))))) le_15 ?_
        refine dE 14 (by kernel_rfl) rfl ?_
        have hmk : ml1 = k1 := by have h1 := congrArg List.length pk12; rw [List.length_map, List.length_map, List.length_take] at h1; omega
        have hmb := (hf.at 1).lTl
        refine ap (k := 1) (news := f5 ((TC.none, Tr.none) : EE)) Tryz.underlying34 I37 rfl rfl pk10 (fun _ => (.tail .head)) (src_says Tryz.underlying34 rfl (fun _ => Says.own .head) (f5_one _)) (by omega) (by unfold maxLen; omega) rfl (fun a49 c49 N49 r49 z49 => ?_)
        refine dN (.skip (.skip (.keep (.keep (.keep .nil))))) le_15 ?_
        refine dE 15 (by kernel_rfl) rfl ?_
        refine ixk (j := 1) Tryz.runUnderlying34 Tryz.sizeOf37 rfl rfl rfl rfl (by decide) rfl ?_
        refine dN (.skip (.skip (.keep (.keep (.keep .nil))))) le_15 ?_
        refine dT 16 rfl rfl rfl (by kernel_rfl) (fun _ _ _ h => h) (y_fa F37_3 rfl) (.skip (.skip (.keep (.keep (.keep .nil))))) le_15 ?_
        refine dE 17 (by kernel_rfl) rfl ?_
        refine st Tryz.sizeOf34 rfl rfl rfl rfl (.tail (.tail (.tail .head))) ?_
        refine dNk (by kernel_rfl) ?_
        refine dD (by kernel_rfl) ?_
        refine Nt ?_
        refine rg ?_
        obtain ⟨gg49, hgg49⟩ := r49.addr (by omega)
        refine ixk (j := ml1) Tryz.runUnderlying34 Tryz.sizeOf37 rfl hgg49 rfl rfl (by omega) rfl ?_
        refine sR (ds := f5 ((ct46, tl_AlterPartitionAssignmentsRequestTopicPartition (lT (T.at 1))[k1]) : EE)) r49 hgg49 (fun _ => (.tail .head)) Tryz.sizeOf37 rfl rfl rfl rfl (by omega) (fun N49b r49b => ?_)
        rw [row_put (k := 5) (m := ml1) (A := es1.flatMap f5) (by rw [flatMap_len f5 5 f5_len, pk11]) rfl, flatMap_snoc'] at r49b
        refine nN ?_
        refine Nb ?_
        refine drN .head ?_
        refine fun a_ w_ hA hw => ⟨_, _, _, hA.sub ?_, (le_5.trans le_15), hw, _, rfl, a49, (ml1 + 1), c49, (es1 ++ [((ct46, tl_AlterPartitionAssignmentsRequestTopicPartition (lT (T.at 1))[k1]) : EE)]), N49b, rfl, rfl, r49b, (by simp; omega), (map_take_snoc (g := tl_AlterPartitionAssignmentsRequestTopicPartition) hk1 pk12), (fun p hp => (mem_snoc hp).elim (fun h => (pk13 p h).mono le_15) (fun h => h ▸ hT46))⟩
        exact (.cons rfl (.cons rfl (.cons rfl (.cons rfl (.cons rfl (.nil _))))))
  · skip
    obtain ⟨al1, ml1, cl1, es1, Nl1, rfl, rfl, pk10, pk11, pk12, pk13⟩ := hI
    refine toWp ?_
    have hes1 : es1.map (·.2) = (lT (T.at 1)).map tl_AlterPartitionAssignmentsRequestTopicPartition := by rw [pk12, List.take_length]
    have hm1 : ml1 = ((lT (T.at 1)).map tl_AlterPartitionAssignmentsRequestTopicPartition).length := by rw [← hes1, List.length_map]; exact pk11
    refine frW pk10 .head (fun Hl1 hll1 hzl1 => ?_)
    have ht1 := TreesAt.row hzl1 pk11 pk10.le.1 (by have h1 := congrArg List.length hes1; rw [List.length_map, List.length_map] at h1; unfold B47; omega) (fun p hp => (pk13 p hp).mono hll1)
    rw [hes1] at ht1
    subst hm1
    refine sr ?_
    refine mv rfl rfl ?_
    refine nc rfl rfl ?_
    refine fa F114_2 rfl rfl ?_
    refine mkf rfl rfl ?_
    have hkv_ := (h2.mono (le_4.trans (le_6.trans hll1)))
    obtain ⟨kvs, hM, hlen, hel⟩ := hkv_
    have hfu := hf.u
    refine cl rfl rfl rfl (t_each (j := 2) (I := fun i H1 Y => TgI 72 b_3 37 (.int .i64 0) (.slice none 0 0) (.bool false) (_) T.u i H1 Y) (hb.mono (le_4.trans (le_6.trans hll1))) rfl hM (by omega) (fun i H1 H2 Y hle h => h.mono hle) TgI.start (fun i k v H1 Y L1 hi hle hI => ?_)) rfl (fun v_ H1 L1 le_17 hR_ => ?_)
    · obtain ⟨s, h1, ⟨va, vc, rfl, hx⟩, h2, h3⟩ := hel i k v hi
      have hik := sortKv_lt hi
      exact TgI.step (fun {_ _ _ _ _ _ _ _ _ _ _ _ _ _ _ _} => tc_224) hf.v (by omega) h1 (hx.mono hle) h2 h3 hI
    rw [hlen] at hR_
    obtain ⟨_, rfl, aU, cU, NU, esU, rfl, hrU, heU, hgU⟩ := hR_
    refine splL ?_
    rw [List.take_length] at heU
    refine frL hrU (.tail .head) (fun HU hleU hzU => ?_)
    have hU := (TagsAt.told hzU hrU heU hfu (fun p hp => (hgU p hp).mono hleU)).1
    refine nl ?_
    refine sr ?_
    refine fa0 F37_4 rfl rfl ?_
    refine ld (Says.own .head) Tryz.isAgg35 rfl (Nat.zero_add _).symm rfl rfl ?_
    refine cl rfl rfl rfl (k_sorted hU (h2.mono (le_4.trans (le_6.trans (hll1.trans (le_17.trans hleU))))).rise) rfl (fun v_ H1 L1 hle_ hR_ => ?_)
    obtain ⟨rfl, rfl⟩ := hR_
    refine nl ?_
    refine sr ?_
    refine la (Says.own .head) Tryz.isAgg37 Tryz.sizeOf37 rfl (Nat.zero_add _).symm rfl rfl ?_
    refine sa Tryz.sizeOf37 rfl rfl rfl rfl rfl (.tail (.tail .head)) ?_
    refine nl ?_
    refine drW .head ?_
    refine frW (Row.whole (e := 37) (size := 5) (m := 2) (ds := [.int .i64 0, .slice (some ⟨b13, 0, none⟩) (T.at 0).s.length cp13, .bool false, .slice none 0 0, .slice none 0 0, .int .i64 0, .slice none 0 0, .bool a1.isNone, .slice al1 ((lT (T.at 1)).map tl_AlterPartitionAssignmentsRequestTopicPartition).length cl1, .slice none 0 0]) rfl (by unfold maxLen; omega)) .head (fun H9 hle9 hz9 => ?_)
    have hrb : H9.at b_2 0 [.int .i64 0, .slice (some ⟨b13, 0, none⟩) (T.at 0).s.length cp13, .bool false, .slice none 0 0, .slice none 0 0, .int .i64 0, .slice none 0 0, .bool a1.isNone, .slice al1 ((lT (T.at 1)).map tl_AlterPartitionAssignmentsRequestTopicPartition).length cl1, .slice none 0 0] := by
      rcases hz9 with ⟨h, _⟩ | ⟨g, h, h2⟩
      · cases h
      · cases h; exact h2
    rw [(h1).nul] at hrb
    have hrb2 : H9.at b_2 0 (([((⟨some ⟨b13, 0, none⟩, cp13, none, 0, none, 0⟩ : TC), (Tr.mk 0 (T.at 0).s false [] [] : Tr)), ((⟨none, 0, al1, cl1, none, 0⟩ : TC), (Tr.mk 0 [] (T.at 1).nul ((lT (T.at 1)).map tl_AlterPartitionAssignmentsRequestTopicPartition) [] : Tr))] : List EE).flatMap fun p => p.1.cells p.2) := by exact hrb
    have hl9 : TreesAt H9 (some ⟨b_2, 0, none⟩) 2 [(.mk 0 (T.at 0).s false [] []), (.mk 0 [] (T.at 1).nul ((lT (T.at 1)).map tl_AlterPartitionAssignmentsRequestTopicPartition) [])] := by
      refine TreesAt.row (es := [((⟨some ⟨b13, 0, none⟩, cp13, none, 0, none, 0⟩ : TC), (Tr.mk 0 (T.at 0).s false [] [] : Tr)), ((⟨none, 0, al1, cl1, none, 0⟩ : TC), (Tr.mk 0 [] (T.at 1).nul ((lT (T.at 1)).map tl_AlterPartitionAssignmentsRequestTopicPartition) [] : Tr))]) (.inr ⟨_, rfl, hrb2⟩) rfl (Nat.le_refl _) (Nat.le_of_ble_eq_true rfl) ?_
      intro p hp
      simp only [List.mem_cons, List.not_mem_nil, or_false] at hp
      rcases hp with rfl | rfl
      · exact (.of (hb13.mono (le_6.trans (hll1.trans (le_17.trans (hleU.trans hle9))))) (.nil _) (.nil _))
      · exact (.of (.nil _) (ht1.mono (le_17.trans (hleU.trans hle9))) (.nil _))
    exact rC rfl Tryz.isAgg37 Tryz.sizeOf37 rfl .head rfl (le_4.trans (le_6.trans (hll1.trans (le_17.trans (hleU.trans hle9))))) (fun _ _ h => h) ⟨rfl, ⟨none, 0, some ⟨b_2, 0, none⟩, 2, aU, cU⟩, rfl, .of (.nil _) hl9 (hU.mono hle9)⟩
def tl_AlterPartitionAssignmentsRequest (T : Tr) : Tr := .mk 0 [] false [(.mk (IntKind.i32.wrap (T.at 0).n) [] false [] []), (.mk (if decide ((T.at 1).n % 2 = 1) = true then 1 else 0) [] false [] []), (.mk 0 [] (T.at 2).nul ((lT (T.at 2)).map tl_AlterPartitionAssignmentsRequestTopic) [])] T.u
theorem te_AlterPartitionAssignmentsRequest {H : Fz} {L : Own} {b o : Nat} {cs : List Value} {T : Tr} {ver : Int} (hb : H.at b o cs) (hA : At_AlterPartitionAssignmentsRequest ver H T cs) (hf : Fits T) :
    Fn Tryz.prog 61 [.pointer (some ⟨b, o, none⟩)] H L (fun v H' L' => L = L' ∧ ∃ c : TC, v = .agg (c.cells (tl_AlterPartitionAssignmentsRequest T)).toArray ∧ TreeAt H' c (tl_AlterPartitionAssignmentsRequest T)) := by
  obtain ⟨a2, c2, mt, rfl, h1, h2⟩ := hA
  refine Fn.mk Tryz.call61 Tryz.func61 rfl Tryz.ntmps61 rfl ?_
  refine sr ?_
  refine al Tryz.zeroValue37 rfl rfl (fun b_1 => ?_)
  refine nl ?_
  refine sr ?_
  refine mkC (m := 3) (zs := [.int .i64 0, .slice none 0 0, .bool false, .slice none 0 0, .slice none 0 0]) Tryz.underlying34 I37 rfl rfl rfl rfl rfl rfl (by decide) (by unfold maxLen; omega) rfl (fun b_2 => ?_)
  refine bd' S37 rfl rfl rfl ?_
  refine al Tryz.zeroValue37 rfl rfl (fun b_3 => ?_)
  refine sa Tryz.sizeOf37 rfl rfl rfl rfl rfl .head ?_
  refine nl ?_
  refine sq ?_
  refine rgD 9 (.keep (.keep (.keep .nil))) mixed ?_
  refine dT 0 rfl rfl rfl (by kernel_rfl) (fun _ _ _ h => h) (y_fa0 F37_3 rfl) (.keep (.keep (.keep .nil))) (Fz.le.refl _) ?_
  refine dT 1 rfl rfl rfl (by kernel_rfl) (fun _ _ _ h => h) (y_ld (Says.own .head) Tryz.isAgg34 rfl (Nat.zero_add _).symm rfl) (.keep (.keep (.keep .nil))) (Fz.le.refl _) ?_
  refine dT 2 rfl rfl rfl (by kernel_rfl) (fun _ _ _ h => h) (y_mv rfl) (.keep (.keep (.keep .nil))) (Fz.le.refl _) ?_
  refine dT 3 rfl rfl rfl (by kernel_rfl) (fun _ _ _ h => h) (y_nc rfl) (.keep (.keep (.keep .nil))) (Fz.le.refl _) ?_
  refine dT 4 rfl rfl rfl (by kernel_rfl) (fun _ _ _ h => h) (y_fa F107_1 rfl) (.keep (.keep (.keep .nil))) (Fz.le.refl _) ?_
  refine dT 5 rfl rfl rfl (by kernel_rfl) (fun _ _ _ h => h) (y_ld (j := 1) (Says.fz hb) Tryz.isAgg21 rfl rfl rfl) (.keep (.keep (.keep .nil))) (Fz.le.refl _) ?_
  refine dT 6 rfl rfl rfl (by kernel_rfl) (fun _ _ _ h => h) (y_cv Tryz.runUnderlying21 Tryz.runUnderlying2 rfl (i32_64 _)) (.keep (.keep (.keep .nil))) (Fz.le.refl _) ?_
  refine dT 7 rfl rfl rfl (by kernel_rfl) (fun _ _ _ h => h) (y_bd S37 rfl rfl) (.keep (.keep (.keep .nil))) (Fz.le.refl _) ?_
  refine dT 8 rfl rfl rfl (by kernel_rfl) (fun _ _ _ h => h) (y_ix2 (j := 0) Tryz.runUnderlying34 Tryz.sizeOf37 rfl rfl rfl rfl (by decide)) (.keep (.keep (.keep .nil))) (Fz.le.refl _) ?_
  refine dE 9 (by kernel_rfl) rfl ?_
  refine sa Tryz.sizeOf37 rfl rfl rfl rfl rfl (.tail .head) ?_
  refine dNk (by kernel_rfl) ?_
  refine dD (by kernel_rfl) ?_
  refine Nt ?_
  refine sq ?_
  refine rgD 8 (.keep (.keep (.keep .nil))) mixed ?_
  refine dT 0 rfl rfl rfl (by kernel_rfl) (fun _ _ _ h => h) (y_fa0 F37_3 rfl) (.keep (.keep (.keep .nil))) (Fz.le.refl _) ?_
  refine dT 1 rfl rfl rfl (by kernel_rfl) (fun _ _ _ h => h) (y_ld (Says.own .head) Tryz.isAgg34 rfl (Nat.zero_add _).symm rfl) (.keep (.keep (.keep .nil))) (Fz.le.refl _) ?_
  refine dT 2 rfl rfl rfl (by kernel_rfl) (fun _ _ _ h => h) (y_mv rfl) (.keep (.keep (.keep .nil))) (Fz.le.refl _) ?_
  refine dT 3 rfl rfl rfl (by kernel_rfl) (fun _ _ _ h => h) (y_nc rfl) (.keep (.keep (.keep .nil))) (Fz.le.refl _) ?_
  refine dT 4 rfl rfl rfl (by kernel_rfl) (fun _ _ _ h => h) (y_fa F107_2 rfl) (.keep (.keep (.keep .nil))) (Fz.le.refl _) ?_
  refine dT 5 rfl rfl rfl (by kernel_rfl) (fun _ _ _ h => h) (y_ld (j := 2) (Says.fz hb) Tryz.isAgg4 rfl rfl rfl) (.keep (.keep (.keep .nil))) (Fz.le.refl _) ?_
  refine dE 6 (by kernel_rfl) rfl ?_
  refine cl rfl rfl rfl (k_boolTree (p := (decide ((T.at 1).n % 2 = 1)))) rfl (fun v_ H1 L1 hle_ hR_ => ?_)
  obtain ⟨rfl, rfl, rfl⟩ := hR_
  refine dN (.keep (.keep (.keep .nil))) (Fz.le.refl _) ?_
  refine dT 7 rfl rfl rfl (by kernel_rfl) (fun _ _ _ h => h) (y_ix2 (j := 1) Tryz.runUnderlying34 Tryz.sizeOf37 rfl rfl rfl rfl (by decide)) (.keep (.keep (.keep .nil))) (Fz.le.refl _) ?_
  refine dE 8 (by kernel_rfl) rfl ?_
  refine sa Tryz.sizeOf37 rfl rfl rfl rfl rfl (.tail .head) ?_
  refine dNk (by kernel_rfl) ?_
  refine dD (by kernel_rfl) ?_
  refine Nt ?_
  refine sq ?_
  refine rgD 9 (.keep (.keep (.keep .nil))) mixed ?_
  refine dT 0 rfl rfl rfl (by kernel_rfl) (fun _ _ _ h => h) (y_fa0 F37_3 rfl) (.keep (.keep (.keep .nil))) (Fz.le.refl _) ?_
  refine dT 1 rfl rfl rfl (by kernel_rfl) (fun _ _ _ h => h) (y_ld (Says.own .head) Tryz.isAgg34 rfl (Nat.zero_add _).symm rfl) (.keep (.keep (.keep .nil))) (Fz.le.refl _) ?_
  refine dT 2 rfl rfl rfl (by kernel_rfl) (fun _ _ _ h => h) (y_mv rfl) (.keep (.keep (.keep .nil))) (Fz.le.refl _) ?_
  refine dT 3 rfl rfl rfl (by kernel_rfl) (fun _ _ _ h => h) (y_nc rfl) (.keep (.keep (.keep .nil))) (Fz.le.refl _) ?_
  refine dT 4 rfl rfl rfl (by kernel_rfl) (fun _ _ _ h => h) (y_fa F107_3 rfl) (.keep (.keep (.keep .nil))) (Fz.le.refl _) ?_
  refine dT 5 rfl rfl rfl (by kernel_rfl) (fun _ _ _ h => h) (y_ld (j := 3) (Says.fz hb) Tryz.isAgg102 rfl rfl rfl) (.keep (.keep (.keep .nil))) (Fz.le.refl _) ?_
  refine dT 6 rfl rfl rfl (by kernel_rfl) (fun _ _ _ h => h) (y_esn Tryz.underlying102 rfl) (.keep (.keep (.keep .nil))) (Fz.le.refl _) ?_
  refine dE 7 (by kernel_rfl) rfl ?_
  refine ixk (j := 2) Tryz.runUnderlying34 Tryz.sizeOf37 rfl rfl rfl rfl (by decide) rfl ?_
  refine dN (.keep (.keep (.keep .nil))) (Fz.le.refl _) ?_
  refine dT 8 rfl rfl rfl (by kernel_rfl) (fun _ _ _ h => h) (y_fa F37_2 rfl) (.keep (.keep (.keep .nil))) (Fz.le.refl _) ?_
  refine dE 9 (by kernel_rfl) rfl ?_
  refine st Tryz.sizeOf4 rfl rfl rfl rfl (.tail .head) ?_
  refine dNk (by kernel_rfl) ?_
  refine dD (by kernel_rfl) ?_
  refine Nt ?_
  refine sq ?_
  refine sr ?_
  refine mv rfl rfl ?_
  refine nc rfl rfl ?_
  refine fa F107_3 rfl rfl ?_
  refine ld (Says.fz hb) Tryz.isAgg102 rfl rfl rfl rfl ?_
  refine ls Tryz.runUnderlying102 rfl rfl ?_
  refine mv rfl rfl ?_
  refine nl ?_
  have hlm2 := (hf.at 2).lTl
  refine nulC2 ?_
  refine fr ((lT (T.at 2)).length) (fun k2 l' H' L' => ∃ (al2 : Option Addr), ∃ (ml2 : Nat), ∃ (cl2 : Nat), ∃ (es2 : List EE), ∃ (Nl2 : Chunk), [(0, .pointer (some ⟨b, o, none⟩)), (2, .pointer (some ⟨b_1, 0, none⟩)), (3, .pointer (some ⟨b_3, 0, none⟩)), (37, .int .i64 ((lT (T.at 2)).length : Int))] = l' ∧ Nl2 :: [(b_3, .cells [.int .i64 0, .slice none 0 0, .bool false, _, .slice none 0 0].toArray 37 (0, 0))] :: [(b_2, .cells [.int .i64 (IntKind.i32.wrap (T.at 0).n), .slice none 0 0, .bool false, .slice none 0 0, .slice none 0 0, .int .i64 (if (decide ((T.at 1).n % 2 = 1)) = true then 1 else 0), .slice none 0 0, .bool false, .slice none 0 0, .slice none 0 0, .int .i64 0, .slice none 0 0, .bool a2.isNone, .slice al2 ml2 cl2, .slice none 0 0].toArray 37 (0, 0))] :: [(b_1, .cells [.int .i64 0, .slice none 0 0, .bool false, .slice none 0 0, .slice none 0 0].toArray 37 (0, 0))] :: L = L' ∧ Row 37 5 al2 ml2 cl2 (es2.flatMap f5) Nl2 ∧ ml2 = es2.length ∧ es2.map (·.2) = ((lT (T.at 2)).take k2).map tl_AlterPartitionAssignmentsRequestTopic ∧ (∀ p : EE, p ∈ es2 → TreeAt H' p.1 p.2)) [(0, .pointer (some ⟨b, o, none⟩)), (2, .pointer (some ⟨b_1, 0, none⟩)), (3, .pointer (some ⟨b_3, 0, none⟩)), (37, .int .i64 ((lT (T.at 2)).length : Int))] (fun k2 l' H' L' h => ?_) (by omega) rfl (.cons rfl (.cons rfl (.cons rfl (.cons rfl (.nil _))))) ⟨none, 0, 0, [], [], rfl, rfl, (Row.nil _ _), rfl, (by simp), (fun p hp => by cases hp)⟩ rfl rfl rfl rfl rfl (fun k2 l' H' L' hk2 le_5 hI => ?_) (fun l' H' L' le_6 hI => ?_)
  · obtain ⟨al2, ml2, cl2, es2, Nl2, rfl, _⟩ := h; exact ⟨rfl, rfl, rfl, rfl⟩
  · skip
    obtain ⟨al2, ml2, cl2, es2, Nl2, rfl, rfl, pk20, pk21, pk22, pk23⟩ := hI
    refine sr ?_
    refine mv rfl rfl ?_
    refine asg rfl rfl ?_
    refine nl ?_
    refine sq ?_
    refine rgD 4 .nil mixed ?_
    refine dE 0 (by kernel_rfl) rfl ?_
    refine al Tryz.zeroValue4 rfl rfl (fun b_7 => ?_)
    refine dN .nil (Fz.le.refl _) ?_
    refine dE2 1 2 (by kernel_rfl) rfl rfl ?_ ?_
    · skip
      refine st Tryz.sizeOf4 rfl rfl rfl rfl .head ?_
      refine dN .nil (Fz.le.refl _) ?_
      refine dE 2 (by kernel_rfl) rfl ?_
      refine st Tryz.sizeOf4 rfl rfl rfl rfl .head ?_
      refine dN .nil (Fz.le.refl _) ?_
      refine dE 3 (by kernel_rfl) rfl ?_
      refine ld (Says.own .head) Tryz.isAgg4 rfl (Nat.zero_add _).symm rfl rfl ?_
      refine dN .nil (Fz.le.refl _) ?_
      refine dD (by kernel_rfl) ?_
      refine drN .head ?_
      refine Nt ?_
      refine cF rfl ?_
      refine rgD 18 (.skip (.keep (.keep (.keep .nil)))) mixed ?_
      refine dT 0 rfl rfl rfl (by kernel_rfl) (fun _ _ _ h => h) (y_fa0 F37_3 rfl) (.skip (.keep (.keep (.keep .nil)))) (Fz.le.refl _) ?_
      refine dT 1 rfl rfl rfl (by kernel_rfl) (fun _ _ _ h => h) (y_ld (Says.own .head) Tryz.isAgg34 rfl (Nat.zero_add _).symm rfl) (.skip (.keep (.keep (.keep .nil)))) (Fz.le.refl _) ?_
      refine dT 2 rfl rfl rfl (by kernel_rfl) (fun _ _ _ h => h) (y_fa0 F37_3 rfl) (.skip (.keep (.keep (.keep .nil)))) (Fz.le.refl _) ?_
      refine dT 3 rfl rfl rfl (by kernel_rfl) (fun _ _ _ h => h) (y_ld (Says.own .head) Tryz.isAgg34 rfl (Nat.zero_add _).symm rfl) (.skip (.keep (.keep (.keep .nil)))) (Fz.le.refl _) ?_
      refine dT 4 rfl rfl rfl (by kernel_rfl) (fun _ _ _ h => h) (y_ix2 (j := 2) Tryz.runUnderlying34 Tryz.sizeOf37 rfl rfl rfl rfl (by decide)) (.skip (.keep (.keep (.keep .nil)))) (Fz.le.refl _) ?_
      refine dT 5 rfl rfl rfl (by kernel_rfl) (fun _ _ _ h => h) (y_fa F37_3 rfl) (.skip (.keep (.keep (.keep .nil)))) (Fz.le.refl _) ?_
      refine dT 6 rfl rfl rfl (by kernel_rfl) (fun _ _ _ h => h) (y_ld (Says.own (.tail .head)) Tryz.isAgg34 rfl (Nat.zero_add _).symm rfl) (.skip (.keep (.keep (.keep .nil)))) (Fz.le.refl _) ?_
      refine dT 7 rfl rfl rfl (by kernel_rfl) (fun _ _ _ h => h) (y_mv rfl) (.skip (.keep (.keep (.keep .nil)))) (Fz.le.refl _) ?_
      refine dT 8 rfl rfl rfl (by kernel_rfl) (fun _ _ _ h => h) (y_nc rfl) (.skip (.keep (.keep (.keep .nil)))) (Fz.le.refl _) ?_
      refine dT 9 rfl rfl rfl (by kernel_rfl) (fun _ _ _ h => h) (y_fa F107_3 rfl) (.skip (.keep (.keep (.keep .nil)))) (Fz.le.refl _) ?_
      refine dT 10 rfl rfl rfl (by kernel_rfl) (fun _ _ _ h => h) (y_ld (j := 3) (Says.fz (hb.mono le_5)) Tryz.isAgg102 rfl rfl rfl) (.skip (.keep (.keep (.keep .nil)))) (Fz.le.refl _) ?_
      refine dT 11 rfl rfl rfl (by kernel_rfl) (fun _ _ _ h => h) (y_mv rfl) (.skip (.keep (.keep (.keep .nil)))) (Fz.le.refl _) ?_
      obtain ⟨beq_8, oeq_8, haq_8, hlq_8⟩ := ((h1.mono At_AlterPartitionAssignmentsRequestTopic.mono le_5)).rows.at_ (ne_nil_of_lt hk2)
      obtain ⟨ceq_8, hAq_8, hbq_8⟩ := hlq_8 k2 hk2
      refine dT 12 rfl rfl rfl (by kernel_rfl) (fun _ _ _ h => h) (y_ixk (j := k2) Tryz.runUnderlying102 Tryz.sizeOf114 rfl haq_8 rfl rfl hk2) (.skip (.keep (.keep (.keep .nil)))) (Fz.le.refl _) ?_
      refine dE 13 (by kernel_rfl) rfl ?_
      refine cl rfl rfl rfl (te_AlterPartitionAssignmentsRequestTopic hbq_8 (At_AlterPartitionAssignmentsRequestTopic.mono _ _ _ _ (Fz.le.refl _) hAq_8) ((hf.at 2).lTel (List.getElem_mem hk2))) rfl (fun v_ H1 L1 le_9 hR_ => ?_)
      obtain ⟨rfl, ct74, rfl, hT74⟩ := hR_
      refine dN (.skip (.keep (.keep (.keep .nil)))) le_9 ?_
      refine dE 14 (by kernel_rfl) rfl ?_
      refine bs' L34 rfl rfl rfl rfl (fun b_10 => ?_)
      refine dN (.skip (.skip (.keep (.keep (.keep .nil))))) le_9 ?_
      refine dE 15 (by kernel_rfl) rfl ?_
      have hmk : ml2 = k2 := by have h1 := congrArg List.length pk22; rw [List.length_map, List.length_map, List.length_take] at h1; omega
      have hmb := (hf.at 2).lTl
      refine ap (k := 1) (news := f5 ((ct74, tl_AlterPartitionAssignmentsRequestTopic (lT (T.at 2))[k2]) : EE)) Tryz.underlying34 I37 rfl rfl pk20 (fun _ => (.tail .head)) (src_says Tryz.underlying34 rfl (fun _ => Says.own .head) (f5_one _)) (by omega) (by unfold maxLen; omega) rfl (fun a76 c76 N76 r76 z76 => ?_)
      rw [flatMap_snoc'] at r76
      refine dN (.skip (.skip (.keep (.keep (.keep .nil))))) le_9 ?_
      refine dE 16 (by kernel_rfl) rfl ?_
      refine ixk (j := 2) Tryz.runUnderlying34 Tryz.sizeOf37 rfl rfl rfl rfl (by decide) rfl ?_
      refine dN (.skip (.skip (.keep (.keep (.keep .nil))))) le_9 ?_
      refine dT 17 rfl rfl rfl (by kernel_rfl) (fun _ _ _ h => h) (y_fa F37_3 rfl) (.skip (.skip (.keep (.keep (.keep .nil))))) le_9 ?_
      refine dE 18 (by kernel_rfl) rfl ?_
      refine st Tryz.sizeOf34 rfl rfl rfl rfl (.tail (.tail (.tail .head))) ?_
      refine dNk (by kernel_rfl) ?_
      refine dD (by kernel_rfl) ?_
      refine Nb ?_
      refine drN .head ?_
      refine fun a_ w_ hA hw => ⟨_, _, _, hA.sub ?_, (le_5.trans le_9), hw, _, rfl, a76, (ml2 + 1), c76, (es2 ++ [((ct74, tl_AlterPartitionAssignmentsRequestTopic (lT (T.at 2))[k2]) : EE)]), N76, rfl, rfl, r76, (by simp; omega), (map_take_snoc (g := tl_AlterPartitionAssignmentsRequestTopic) hk2 pk22), (fun p hp => (mem_snoc hp).elim (fun h => (pk23 p h).mono le_9) (fun h => h ▸ hT74))⟩
      exact (.cons rfl (.cons rfl (.cons rfl (.cons rfl (.cons rfl (.nil _))))))
    · skip
      refine st Tryz.sizeOf4 rfl rfl rfl rfl .head ?_
      refine dN .nil (Fz.le.refl _) ?_
      refine dE 1 (by kernel_rfl) rfl ?_
      refine st Tryz.sizeOf4 rfl rfl rfl rfl .head ?_
      refine dN .nil (Fz.le.refl _) ?_
      refine dE 3 (by kernel_rfl) rfl ?_
      refine ld (Says.own .head) Tryz.isAgg4 rfl (Nat.zero_add _).symm rfl rfl ?_
      refine dN .nil (Fz.le.refl _) ?_
      refine dD (by kernel_rfl) ?_
      refine drN .head ?_
      refine Nt ?_
      refine cT rfl ?_
      refine sq ?_
      refine rgD 17 (.skip (.keep (.keep (.keep .nil)))) mixed ?_
      refine dT 0 rfl rfl rfl (by kernel_rfl) (fun _ _ _ h => h) (y_fa0 F37_3 rfl) (.skip (.keep (.keep (.keep .nil)))) (Fz.le.refl _) ?_
      refine dT 1 rfl rfl rfl (by kernel_rfl) (fun _ _ _ h => h) (y_ld (Says.own .head) Tryz.isAgg34 rfl (Nat.zero_add _).symm rfl) (.skip (.keep (.keep (.keep .nil)))) (Fz.le.refl _) ?_
      refine dT 2 rfl rfl rfl (by kernel_rfl) (fun _ _ _ h => h) (y_ix2 (j := 2) Tryz.runUnderlying34 Tryz.sizeOf37 rfl rfl rfl rfl (by decide)) (.skip (.keep (.keep (.keep .nil)))) (Fz.le.refl _) ?_
      refine dT 3 rfl rfl rfl (by kernel_rfl) (fun _ _ _ h => h) (y_fa F37_3 rfl) (.skip (.keep (.keep (.keep .nil)))) (Fz.le.refl _) ?_
      refine dT 4 rfl rfl rfl (by kernel_rfl) (fun _ _ _ h => h) (y_ld (Says.own (.tail .head)) Tryz.isAgg34 rfl (Nat.zero_add _).symm rfl) (.skip (.keep (.keep (.keep .nil)))) (Fz.le.refl _) ?_
      refine dT 5 rfl rfl rfl (by kernel_rfl) (fun _ _ _ h => h) (y_mv rfl) (.skip (.keep (.keep (.keep .nil)))) (Fz.le.refl _) ?_
      refine dT 6 rfl rfl rfl (by kernel_rfl) (fun _ _ _ h => h) (y_nc rfl) (.skip (.keep (.keep (.keep .nil)))) (Fz.le.refl _) ?_
      refine dT 7 rfl rfl rfl (by kernel_rfl) (fun _ _ _ h => h) (y_fa F107_3 rfl) (.skip (.keep (.keep (.keep .nil)))) (Fz.le.refl _) ?_
      refine dT 8 rfl rfl rfl (by kernel_rfl) (fun _ _ _ h => h) (y_ld (j := 3) (Says.fz (hb.mono le_5)) Tryz.isAgg102 rfl rfl rfl) (.skip (.keep (.keep (.keep .nil)))) (Fz.le.refl _) ?_
      refine dT 9 rfl rfl rfl (by kernel_rfl) (fun _ _ _ h => h) (y_mv rfl) (.skip (.keep (.keep (.keep .nil)))) (Fz.le.refl _) ?_
      obtain ⟨beq_11, oeq_11, haq_11, hlq_11⟩ := ((h1.mono At_AlterPartitionAssignmentsRequestTopic.mono le_5)).rows.at_ (ne_nil_of_lt hk2)
      obtain ⟨ceq_11, hAq_11, hbq_11⟩ := hlq_11 k2 hk2
      refine dT 10 rfl rfl rfl (by kernel_rfl) (fun _ _ _ h => h) (y_ixk (j := k2) Tryz.runUnderlying102 Tryz.sizeOf114 rfl haq_11 rfl rfl hk2) (.skip (.keep (.keep (.keep .nil)))) (Fz.le.refl _) ?_
      refine dT 12 rfl rfl rfl (by kernel_rfl) (fun _ _ _ h => h) (y_ls Tryz.runUnderlying34 rfl) (.skip (.keep (.keep (.keep .nil)))) (Fz.le.refl _) ?_
      refine dE2 11 13 (by kernel_rfl) rfl rfl ?_ ?_
      · skip
        refine cl rfl rfl rfl (te_AlterPartitionAssignmentsRequestTopic hbq_11 (At_AlterPartitionAssignmentsRequestTopic.mono _ _ _ _ (Fz.le.refl _) hAq_11) ((hf.at 2).lTel (List.getElem_mem hk2))) rfl (fun v_ H1 L1 le_12 hR_ => ?_)
        obtain ⟨rfl, ct54, rfl, hT54⟩ := hR_
        refine dN (.skip (.keep (.keep (.keep .nil)))) le_12 ?_
        refine dE 13 (by kernel_rfl) rfl ?_
        refine bs' L34 rfl rfl rfl rfl (fun b_13 => ?_)
        refine dN (.skip (.skip (.keep (.keep (.keep .nil))))) le_12 ?_
        refine dE 14 (by kernel_rfl) rfl ?_
        have hmk : ml2 = k2 := by have h1 := congrArg List.length pk22; rw [List.length_map, List.length_map, List.length_take] at h1; omega
        have hmb := (hf.at 2).lTl
        refine ap (k := 1) (news := f5 ((TC.none, Tr.none) : EE)) Tryz.underlying34 I37 rfl rfl pk20 (fun _ => (.tail .head)) (src_says Tryz.underlying34 rfl (fun _ => Says.own .head) (f5_one _)) (by omega) (by unfold maxLen; omega) rfl (fun a57 c57 N57 r57 z57 => ?_)
        refine dN (.skip (.skip (.keep (.keep (.keep .nil))))) le_12 ?_
        refine dE 15 (by kernel_rfl) rfl ?_
        refine ixk (j := 2) Tryz.runUnderlying34 Tryz.sizeOf37 rfl rfl rfl rfl (by decide) rfl ?_
        refine dN (.skip (.skip (.keep (.keep (.keep .nil))))) le_12 ?_
        refine dT 16 rfl rfl rfl (by kernel_rfl) (fun _ _ _ h => h) (y_fa F37_3 rfl) (.skip (.skip (.keep (.keep (.keep .nil))))) le_12 ?_
        refine dE 17 (by kernel_rfl) rfl ?_
        refine st Tryz.sizeOf34 rfl rfl rfl rfl (.tail (.tail (.tail .head))) ?_
        refine dNk (by kernel_rfl) ?_
        refine dD (by kernel_rfl) ?_
        refine Nt ?_
        refine rg ?_
        obtain ⟨gg57, hgg57⟩ := r57.addr (by omega)
        refine ixk (j := ml2) Tryz.runUnderlying34 Tryz.sizeOf37 rfl hgg57 rfl rfl (by omega) rfl ?_
        refine sR (ds := f5 ((ct54, tl_AlterPartitionAssignmentsRequestTopic (lT (T.at 2))[k2]) : EE)) r57 hgg57 (fun _ => (.tail .head)) Tryz.sizeOf37 rfl rfl rfl rfl (by omega) (fun N57b r57b => ?_)
        rw [row_put (k := 5) (m := ml2) (A := es2.flatMap f5) (by rw [flatMap_len f5 5 f5_len, pk21]) rfl, flatMap_snoc'] at r57b
        refine nN ?_
        refine Nb ?_
        refine drN .head ?_
        refine fun a_ w_ hA hw => ⟨_, _, _, hA.sub ?_, (le_5.trans le_12), hw, _, rfl, a57, (ml2 + 1), c57, (es2 ++ [((ct54, tl_AlterPartitionAssignmentsRequestTopic (lT (T.at 2))[k2]) : EE)]), N57b, rfl, rfl, r57b, (by simp; omega), (map_take_snoc (g := tl_AlterPartitionAssignmentsRequestTopic) hk2 pk22), (fun p hp => (mem_snoc hp).elim (fun h => (pk23 p h).mono le_12) (fun h => h ▸ hT54))⟩
        exact (.cons rfl (.cons rfl (.cons rfl (.cons rfl (.cons rfl (.nil _))))))
      · skip
        refine bs' L34 rfl rfl rfl rfl (fun b_14 => ?_)
        refine dN (.skip (.skip (.keep (.keep (.keep .nil))))) (Fz.le.refl _) ?_
        refine dE 11 (by kernel_rfl) rfl ?_
        refine cl rfl rfl rfl (te_AlterPartitionAssignmentsRequestTopic hbq_11 (At_AlterPartitionAssignmentsRequestTopic.mono _ _ _ _ (Fz.le.refl _) hAq_11) ((hf.at 2).lTel (List.getElem_mem hk2))) rfl (fun v_ H1 L1 le_15 hR_ => ?_)
        obtain ⟨rfl, ct54, rfl, hT54⟩ := hR_
        refine dN (.skip (.skip (.keep (.keep (.keep .nil))))) le_15 ?_
        refine dE 14 (by kernel_rfl) rfl ?_
        have hmk : ml2 = k2 := by have h1 := congrArg List.length pk22; rw [List.length_map, List.length_map, List.length_take] at h1; omega
        have hmb := (hf.at 2).lTl
        refine ap (k := 1) (news := f5 ((TC.none, Tr.none) : EE)) Tryz.underlying34 I37 rfl rfl pk20 (fun _ => (.tail .head)) (src_says Tryz.underlying34 rfl (fun _ => Says.own .head) (f5_one _)) (by omega) (by unfold maxLen; omega) rfl (fun a57 c57 N57 r57 z57 => ?_)
        refine dN (.skip (.skip (.keep (.keep (.keep .nil))))) le_15 ?_
        refine dE 15 (by kernel_rfl) rfl ?_
        refine ixk (j := 2) Tryz.runUnderlying34 Tryz.sizeOf37 rfl rfl rfl rfl (by decide) rfl ?_
        refine dN (.skip (.skip (.keep (.keep (.keep .nil))))) le_15 ?_
        refine dT 16 rfl rfl rfl (by kernel_rfl) (fun _ _ _ h => h) (y_fa F37_3 rfl) (.skip (.skip (.keep (.keep (.keep .nil))))) le_15 ?_
        refine dE 17 (by kernel_rfl) rfl ?_
        refine st Tryz.sizeOf34 rfl rfl rfl rfl (.tail (.tail (.tail .head))) ?_
        refine dNk (by kernel_rfl) ?_
        refine dD (by kernel_rfl) ?_
        refine Nt ?_
        refine rg ?_
        obtain ⟨gg57, hgg57⟩ := r57.addr (by omega)
        refine ixk (j := ml2) Tryz.runUnderlying34 Tryz.sizeOf37 rfl hgg57 rfl rfl (by omega) rfl ?_
        refine sR (ds := f5 ((ct54, tl_AlterPartitionAssignmentsRequestTopic (lT (T.at 2))[k2]) : EE)) r57 hgg57 (fun _ => (.tail .head)) Tryz.sizeOf37 rfl rfl rfl rfl (by omega) (fun N57b r57b => ?_)
        rw [row_put (k := 5) (m := ml2) (A := es2.flatMap f5) (by rw [flatMap_len f5 5 f5_len, pk21]) rfl, flatMap_snoc'] at r57b
        refine nN ?_
        refine Nb ?_
        refine drN .head ?_
        refine fun a_ w_ hA hw => ⟨_, _, _, hA.sub ?_, (le_5.trans le_15), hw, _, rfl, a57, (ml2 + 1), c57, (es2 ++ [((ct54, tl_AlterPartitionAssignmentsRequestTopic (lT (T.at 2))[k2]) : EE)]), N57b, rfl, rfl, r57b, (by simp; omega), (map_take_snoc (g := tl_AlterPartitionAssignmentsRequestTopic) hk2 pk22), (fun p hp => (mem_snoc hp).elim (fun h => (pk23 p h).mono le_15) (fun h => h ▸ hT54))⟩
        exact (.cons rfl (.cons rfl (.cons rfl (.cons rfl (.cons rfl (.nil _))))))
  · skip
    obtain ⟨al2, ml2, cl2, es2, Nl2, rfl, rfl, pk20, pk21, pk22, pk23⟩ := hI
    refine toWp ?_
    have hes2 : es2.map (·.2) = (lT (T.at 2)).map tl_AlterPartitionAssignmentsRequestTopic := by rw [pk22, List.take_length]
    have hm2 : ml2 = ((lT (T.at 2)).map tl_AlterPartitionAssignmentsRequestTopic).length := by rw [← hes2, List.length_map]; exact pk21
    refine frW pk20 .head (fun Hl2 hll2 hzl2 => ?_)
    have ht2 := TreesAt.row hzl2 pk21 pk20.le.1 (by have h1 := congrArg List.length hes2; rw [List.length_map, List.length_map] at h1; unfold B47; omega) (fun p hp => (pk23 p hp).mono hll2)
    rw [hes2] at ht2
    subst hm2
    refine sr ?_
    refine mv rfl rfl ?_
    refine nc rfl rfl ?_
    refine fa F107_4 rfl rfl ?_
    refine mkf rfl rfl ?_
    have hkv_ := (h2.mono (le_6.trans hll2))
    obtain ⟨kvs, hM, hlen, hel⟩ := hkv_
    have hfu := hf.u
    refine cl rfl rfl rfl (t_each (j := 4) (I := fun i H1 Y => TgI 72 b_3 37 (.int .i64 0) (.slice none 0 0) (.bool false) (_) T.u i H1 Y) (hb.mono (le_6.trans hll2)) rfl hM (by omega) (fun i H1 H2 Y hle h => h.mono hle) TgI.start (fun i k v H1 Y L1 hi hle hI => ?_)) rfl (fun v_ H1 L1 le_17 hR_ => ?_)
    · obtain ⟨s, h1, ⟨va, vc, rfl, hx⟩, h2, h3⟩ := hel i k v hi
      have hik := sortKv_lt hi
      exact TgI.step (fun {_ _ _ _ _ _ _ _ _ _ _ _ _ _ _ _} => tc_141) hf.v (by omega) h1 (hx.mono hle) h2 h3 hI
    rw [hlen] at hR_
    obtain ⟨_, rfl, aU, cU, NU, esU, rfl, hrU, heU, hgU⟩ := hR_
    refine splL ?_
    rw [List.take_length] at heU
    refine frL hrU (.tail .head) (fun HU hleU hzU => ?_)
    have hU := (TagsAt.told hzU hrU heU hfu (fun p hp => (hgU p hp).mono hleU)).1
    refine nl ?_
    refine sr ?_
    refine fa0 F37_4 rfl rfl ?_
    refine ld (Says.own .head) Tryz.isAgg35 rfl (Nat.zero_add _).symm rfl rfl ?_
    refine cl rfl rfl rfl (k_sorted hU (h2.mono (le_6.trans (hll2.trans (le_17.trans hleU)))).rise) rfl (fun v_ H1 L1 hle_ hR_ => ?_)
    obtain ⟨rfl, rfl⟩ := hR_
    refine nl ?_
    refine sr ?_
    refine la (Says.own .head) Tryz.isAgg37 Tryz.sizeOf37 rfl (Nat.zero_add _).symm rfl rfl ?_
    refine sa Tryz.sizeOf37 rfl rfl rfl rfl rfl (.tail (.tail .head)) ?_
    refine nl ?_
    refine drW .head ?_
    refine frW (Row.whole (e := 37) (size := 5) (m := 3) (ds := [.int .i64 (IntKind.i32.wrap (T.at 0).n), .slice none 0 0, .bool false, .slice none 0 0, .slice none 0 0, .int .i64 (if (decide ((T.at 1).n % 2 = 1)) = true then 1 else 0), .slice none 0 0, .bool false, .slice none 0 0, .slice none 0 0, .int .i64 0, .slice none 0 0, .bool a2.isNone, .slice al2 ((lT (T.at 2)).map tl_AlterPartitionAssignmentsRequestTopic).length cl2, .slice none 0 0]) rfl (by unfold maxLen; omega)) .head (fun H9 hle9 hz9 => ?_)
    have hrb : H9.at b_2 0 [.int .i64 (IntKind.i32.wrap (T.at 0).n), .slice none 0 0, .bool false, .slice none 0 0, .slice none 0 0, .int .i64 (if (decide ((T.at 1).n % 2 = 1)) = true then 1 else 0), .slice none 0 0, .bool false, .slice none 0 0, .slice none 0 0, .int .i64 0, .slice none 0 0, .bool a2.isNone, .slice al2 ((lT (T.at 2)).map tl_AlterPartitionAssignmentsRequestTopic).length cl2, .slice none 0 0] := by
      rcases hz9 with ⟨h, _⟩ | ⟨g, h, h2⟩
      · cases h
      · cases h; exact h2
    rw [(h1).nul] at hrb
    have hrb2 : H9.at b_2 0 (([((TC.none : TC), (Tr.mk (IntKind.i32.wrap (T.at 0).n) [] false [] [] : Tr)), ((TC.none : TC), (Tr.mk (if decide ((T.at 1).n % 2 = 1) = true then 1 else 0) [] false [] [] : Tr)), ((⟨none, 0, al2, cl2, none, 0⟩ : TC), (Tr.mk 0 [] (T.at 2).nul ((lT (T.at 2)).map tl_AlterPartitionAssignmentsRequestTopic) [] : Tr))] : List EE).flatMap fun p => p.1.cells p.2) := by exact hrb
    have hl9 : TreesAt H9 (some ⟨b_2, 0, none⟩) 3 [(.mk (IntKind.i32.wrap (T.at 0).n) [] false [] []), (.mk (if decide ((T.at 1).n % 2 = 1) = true then 1 else 0) [] false [] []), (.mk 0 [] (T.at 2).nul ((lT (T.at 2)).map tl_AlterPartitionAssignmentsRequestTopic) [])] := by
      refine TreesAt.row (es := [((TC.none : TC), (Tr.mk (IntKind.i32.wrap (T.at 0).n) [] false [] [] : Tr)), ((TC.none : TC), (Tr.mk (if decide ((T.at 1).n % 2 = 1) = true then 1 else 0) [] false [] [] : Tr)), ((⟨none, 0, al2, cl2, none, 0⟩ : TC), (Tr.mk 0 [] (T.at 2).nul ((lT (T.at 2)).map tl_AlterPartitionAssignmentsRequestTopic) [] : Tr))]) (.inr ⟨_, rfl, hrb2⟩) rfl (Nat.le_refl _) (Nat.le_of_ble_eq_true rfl) ?_
      intro p hp
      simp only [List.mem_cons, List.not_mem_nil, or_false] at hp
      rcases hp with rfl | rfl | rfl
      · exact (.of (.nil _) (.nil _) (.nil _))
      · exact (.of (.nil _) (.nil _) (.nil _))
      · exact (.of (.nil _) (ht2.mono (le_17.trans (hleU.trans hle9))) (.nil _))
    exact rC rfl Tryz.isAgg37 Tryz.sizeOf37 rfl .head rfl (le_6.trans (hll2.trans (le_17.trans (hleU.trans hle9)))) (fun _ _ h => h) ⟨rfl, ⟨none, 0, some ⟨b_2, 0, none⟩, 3, aU, cU⟩, rfl, .of (.nil _) hl9 (hU.mono hle9)⟩
end Go.Sx

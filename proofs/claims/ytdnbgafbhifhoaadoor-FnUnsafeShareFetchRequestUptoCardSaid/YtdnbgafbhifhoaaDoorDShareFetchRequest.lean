import Derived.Test.YtdnbgafbhifhoaaDoorBShareFetchRequest
import Derived.Test.YtdnbgafbhifhoaaDoorTB
import Derived.KernelRfl
set_option linter.unusedVariables false
set_option linter.unusedSimpArgs false
set_option maxRecDepth 100000
set_option maxHeartbeats 20000000
namespace Go.Sx
open Go.Proofs
def tl_ShareFetchRequestTopicPartitionAcknowledgementBatch (T : Tr) : Tr := .mk 0 [] false [(.mk (T.at 0).n [] false [] []), (.mk (T.at 1).n [] false [] []), (.mk 0 [] (T.at 2).nul ((lT (T.at 2)).map (fun y : Tr => (Tr.mk (IntKind.i8.wrap y.n) [] false [] [] : Tr))) [])] T.u
theorem te_ShareFetchRequestTopicPartitionAcknowledgementBatch {H : Fz} {L : Own} {b o : Nat} {cs : List Value} {T : Tr} (hb : H.at b o cs) (hA : At_ShareFetchRequestTopicPartitionAcknowledgementBatch H T cs) (hf : Fits T) :
    Fn Tryd.prog 253 [.pointer (some ⟨b, o, none⟩)] H L (fun v H' L' => L = L' ∧ ∃ c : TC, v = .agg (c.cells (tl_ShareFetchRequestTopicPartitionAcknowledgementBatch T)).toArray ∧ TreeAt H' c (tl_ShareFetchRequestTopicPartitionAcknowledgementBatch T)) := by
  obtain ⟨a2, c2, mt, rfl, h1, h2⟩ := hA
  refine Fn.mk Tryd.call253 Tryd.func253 rfl Tryd.ntmps253 rfl ?_
  refine sr ?_
  refine al Tryd.zeroValue26 rfl rfl (fun b_1 => ?_)
  refine nl ?_
  refine sr ?_
  refine mkC (m := 3) (zs := [.int .i64 0, .slice none 0 0, .bool false, .slice none 0 0, .slice none 0 0]) Tryd.underlying23 I26 rfl rfl rfl rfl rfl rfl (by decide) (by unfold maxLen; omega) rfl (fun b_2 => ?_)
  refine bd' S26 rfl rfl rfl ?_
  refine al Tryd.zeroValue26 rfl rfl (fun b_3 => ?_)
  refine sa Tryd.sizeOf26 rfl rfl rfl rfl rfl .head ?_
  refine nl ?_
  refine sq ?_
  refine rgD 8 (.keep (.keep (.keep .nil))) mixed ?_
  refine dT 0 rfl rfl rfl (by kernel_rfl) (fun _ _ _ h => h) (y_fa0 F26_3 rfl) (.keep (.keep (.keep .nil))) (Fz.le.refl _) ?_
  refine dT 1 rfl rfl rfl (by kernel_rfl) (fun _ _ _ h => h) (y_ld (Says.own .head) Tryd.isAgg23 rfl (Nat.zero_add _).symm rfl) (.keep (.keep (.keep .nil))) (Fz.le.refl _) ?_
  refine dT 2 rfl rfl rfl (by kernel_rfl) (fun _ _ _ h => h) (y_mv rfl) (.keep (.keep (.keep .nil))) (Fz.le.refl _) ?_
  refine dT 3 rfl rfl rfl (by kernel_rfl) (fun _ _ _ h => h) (y_nc rfl) (.keep (.keep (.keep .nil))) (Fz.le.refl _) ?_
  refine dT 4 rfl rfl rfl (by kernel_rfl) (fun _ _ _ h => h) (y_fa F246_0 rfl) (.keep (.keep (.keep .nil))) (Fz.le.refl _) ?_
  refine dT 5 rfl rfl rfl (by kernel_rfl) (fun _ _ _ h => h) (y_ld (j := 0) (Says.fz hb) Tryd.isAgg2 rfl (Nat.add_zero _).symm rfl) (.keep (.keep (.keep .nil))) (Fz.le.refl _) ?_
  refine dT 6 rfl rfl rfl (by kernel_rfl) (fun _ _ _ h => h) (y_bd S26 rfl rfl) (.keep (.keep (.keep .nil))) (Fz.le.refl _) ?_
  refine dT 7 rfl rfl rfl (by kernel_rfl) (fun _ _ _ h => h) (y_ix2 (j := 0) Tryd.runUnderlying23 Tryd.sizeOf26 rfl rfl rfl rfl (by decide)) (.keep (.keep (.keep .nil))) (Fz.le.refl _) ?_
  refine dE 8 (by kernel_rfl) rfl ?_
  refine sa Tryd.sizeOf26 rfl rfl rfl rfl rfl (.tail .head) ?_
  refine dNk (by kernel_rfl) ?_
  refine dD (by kernel_rfl) ?_
  refine Nt ?_
  refine sq ?_
  refine rgD 8 (.keep (.keep (.keep .nil))) mixed ?_
  refine dT 0 rfl rfl rfl (by kernel_rfl) (fun _ _ _ h => h) (y_fa0 F26_3 rfl) (.keep (.keep (.keep .nil))) (Fz.le.refl _) ?_
  refine dT 1 rfl rfl rfl (by kernel_rfl) (fun _ _ _ h => h) (y_ld (Says.own .head) Tryd.isAgg23 rfl (Nat.zero_add _).symm rfl) (.keep (.keep (.keep .nil))) (Fz.le.refl _) ?_
  refine dT 2 rfl rfl rfl (by kernel_rfl) (fun _ _ _ h => h) (y_mv rfl) (.keep (.keep (.keep .nil))) (Fz.le.refl _) ?_
  refine dT 3 rfl rfl rfl (by kernel_rfl) (fun _ _ _ h => h) (y_nc rfl) (.keep (.keep (.keep .nil))) (Fz.le.refl _) ?_
  refine dT 4 rfl rfl rfl (by kernel_rfl) (fun _ _ _ h => h) (y_fa F246_1 rfl) (.keep (.keep (.keep .nil))) (Fz.le.refl _) ?_
  refine dT 5 rfl rfl rfl (by kernel_rfl) (fun _ _ _ h => h) (y_ld (j := 1) (Says.fz hb) Tryd.isAgg2 rfl rfl rfl) (.keep (.keep (.keep .nil))) (Fz.le.refl _) ?_
  refine dT 6 rfl rfl rfl (by kernel_rfl) (fun _ _ _ h => h) (y_bd S26 rfl rfl) (.keep (.keep (.keep .nil))) (Fz.le.refl _) ?_
  refine dT 7 rfl rfl rfl (by kernel_rfl) (fun _ _ _ h => h) (y_ix2 (j := 1) Tryd.runUnderlying23 Tryd.sizeOf26 rfl rfl rfl rfl (by decide)) (.keep (.keep (.keep .nil))) (Fz.le.refl _) ?_
  refine dE 8 (by kernel_rfl) rfl ?_
  refine sa Tryd.sizeOf26 rfl rfl rfl rfl rfl (.tail .head) ?_
  refine dNk (by kernel_rfl) ?_
  refine dD (by kernel_rfl) ?_
  refine Nt ?_
  refine sq ?_
  refine rgD 9 (.keep (.keep (.keep .nil))) mixed ?_
  refine dT 0 rfl rfl rfl (by kernel_rfl) (fun _ _ _ h => h) (y_fa0 F26_3 rfl) (.keep (.keep (.keep .nil))) (Fz.le.refl _) ?_
  refine dT 1 rfl rfl rfl (by kernel_rfl) (fun _ _ _ h => h) (y_ld (Says.own .head) Tryd.isAgg23 rfl (Nat.zero_add _).symm rfl) (.keep (.keep (.keep .nil))) (Fz.le.refl _) ?_
  refine dT 2 rfl rfl rfl (by kernel_rfl) (fun _ _ _ h => h) (y_mv rfl) (.keep (.keep (.keep .nil))) (Fz.le.refl _) ?_
  refine dT 3 rfl rfl rfl (by kernel_rfl) (fun _ _ _ h => h) (y_nc rfl) (.keep (.keep (.keep .nil))) (Fz.le.refl _) ?_
  refine dT 4 rfl rfl rfl (by kernel_rfl) (fun _ _ _ h => h) (y_fa F246_2 rfl) (.keep (.keep (.keep .nil))) (Fz.le.refl _) ?_
  refine dT 5 rfl rfl rfl (by kernel_rfl) (fun _ _ _ h => h) (y_ld (j := 2) (Says.fz hb) Tryd.isAgg244 rfl rfl rfl) (.keep (.keep (.keep .nil))) (Fz.le.refl _) ?_
  refine dT 6 rfl rfl rfl (by kernel_rfl) (fun _ _ _ h => h) (y_esn Tryd.underlying244 rfl) (.keep (.keep (.keep .nil))) (Fz.le.refl _) ?_
  refine dE 7 (by kernel_rfl) rfl ?_
  refine ixk (j := 2) Tryd.runUnderlying23 Tryd.sizeOf26 rfl rfl rfl rfl (by decide) rfl ?_
  refine dN (.keep (.keep (.keep .nil))) (Fz.le.refl _) ?_
  refine dT 8 rfl rfl rfl (by kernel_rfl) (fun _ _ _ h => h) (y_fa F26_2 rfl) (.keep (.keep (.keep .nil))) (Fz.le.refl _) ?_
  refine dE 9 (by kernel_rfl) rfl ?_
  refine st Tryd.sizeOf4 rfl rfl rfl rfl (.tail .head) ?_
  refine dNk (by kernel_rfl) ?_
  refine dD (by kernel_rfl) ?_
  refine Nt ?_
  refine sq ?_
  refine sr ?_
  refine mv rfl rfl ?_
  refine nc rfl rfl ?_
  refine fa F246_2 rfl rfl ?_
  refine ld (Says.fz hb) Tryd.isAgg244 rfl rfl rfl rfl ?_
  refine ls Tryd.runUnderlying244 rfl rfl ?_
  refine mv rfl rfl ?_
  refine nl ?_
  have hlm2 := (hf.at 2).lTl
  refine nulC2 ?_
  refine fr ((lT (T.at 2)).length) (fun k2 l' H' L' => ∃ (al2 : Option Addr), ∃ (ml2 : Nat), ∃ (cl2 : Nat), ∃ (es2 : List EE), ∃ (Nl2 : Chunk), [(0, .pointer (some ⟨b, o, none⟩)), (2, .pointer (some ⟨b_1, 0, none⟩)), (3, .pointer (some ⟨b_3, 0, none⟩)), (36, .int .i64 ((lT (T.at 2)).length : Int))] = l' ∧ Nl2 :: [(b_3, .cells [.int .i64 0, .slice none 0 0, .bool false, _, .slice none 0 0].toArray 26 (0, 0))] :: [(b_2, .cells [.int .i64 (T.at 0).n, .slice none 0 0, .bool false, .slice none 0 0, .slice none 0 0, .int .i64 (T.at 1).n, .slice none 0 0, .bool false, .slice none 0 0, .slice none 0 0, .int .i64 0, .slice none 0 0, .bool a2.isNone, .slice al2 ml2 cl2, .slice none 0 0].toArray 26 (0, 0))] :: [(b_1, .cells [.int .i64 0, .slice none 0 0, .bool false, .slice none 0 0, .slice none 0 0].toArray 26 (0, 0))] :: L = L' ∧ Row 26 5 al2 ml2 cl2 (es2.flatMap f5) Nl2 ∧ ml2 = es2.length ∧ es2.map (·.2) = ((lT (T.at 2)).take k2).map (fun y : Tr => (Tr.mk (IntKind.i8.wrap y.n) [] false [] [] : Tr)) ∧ (∀ p : EE, p ∈ es2 → TreeAt H' p.1 p.2)) [(0, .pointer (some ⟨b, o, none⟩)), (2, .pointer (some ⟨b_1, 0, none⟩)), (3, .pointer (some ⟨b_3, 0, none⟩)), (36, .int .i64 ((lT (T.at 2)).length : Int))] (fun k2 l' H' L' h => ?_) (by omega) rfl (.cons rfl (.cons rfl (.cons rfl (.cons rfl (.nil _))))) ⟨none, 0, 0, [], [], rfl, rfl, (Row.nil _ _), rfl, (by simp), (fun p hp => by cases hp)⟩ rfl rfl rfl rfl rfl (fun k2 l' H' L' hk2 le_4 hI => ?_) (fun l' H' L' le_5 hI => ?_)
  · obtain ⟨al2, ml2, cl2, es2, Nl2, rfl, _⟩ := h; exact ⟨rfl, rfl, rfl, rfl⟩
  · skip
    obtain ⟨al2, ml2, cl2, es2, Nl2, rfl, rfl, pk20, pk21, pk22, pk23⟩ := hI
    refine sr ?_
    refine mv rfl rfl ?_
    refine asg rfl rfl ?_
    refine nl ?_
    refine sq ?_
    refine rgD 4 .nil mixed ?_
    refine dE 0 (by kernel_rfl) rfl ?_
    refine al Tryd.zeroValue4 rfl rfl (fun b_6 => ?_)
    refine dN .nil (Fz.le.refl _) ?_
    refine dE2 1 2 (by kernel_rfl) rfl rfl ?_ ?_
    · skip
      refine st Tryd.sizeOf4 rfl rfl rfl rfl .head ?_
      refine dN .nil (Fz.le.refl _) ?_
      refine dE 2 (by kernel_rfl) rfl ?_
      refine st Tryd.sizeOf4 rfl rfl rfl rfl .head ?_
      refine dN .nil (Fz.le.refl _) ?_
      refine dE 3 (by kernel_rfl) rfl ?_
      refine ld (Says.own .head) Tryd.isAgg4 rfl (Nat.zero_add _).symm rfl rfl ?_
      refine dN .nil (Fz.le.refl _) ?_
      refine dD (by kernel_rfl) ?_
      refine drN .head ?_
      refine Nt ?_
      refine cF rfl ?_
      refine rgD 20 (.skip (.keep (.keep (.keep .nil)))) mixed ?_
      refine dT 0 rfl rfl rfl (by kernel_rfl) (fun _ _ _ h => h) (y_fa0 F26_3 rfl) (.skip (.keep (.keep (.keep .nil)))) (Fz.le.refl _) ?_
      refine dT 1 rfl rfl rfl (by kernel_rfl) (fun _ _ _ h => h) (y_ld (Says.own .head) Tryd.isAgg23 rfl (Nat.zero_add _).symm rfl) (.skip (.keep (.keep (.keep .nil)))) (Fz.le.refl _) ?_
      refine dT 2 rfl rfl rfl (by kernel_rfl) (fun _ _ _ h => h) (y_fa0 F26_3 rfl) (.skip (.keep (.keep (.keep .nil)))) (Fz.le.refl _) ?_
      refine dT 3 rfl rfl rfl (by kernel_rfl) (fun _ _ _ h => h) (y_ld (Says.own .head) Tryd.isAgg23 rfl (Nat.zero_add _).symm rfl) (.skip (.keep (.keep (.keep .nil)))) (Fz.le.refl _) ?_
      refine dT 4 rfl rfl rfl (by kernel_rfl) (fun _ _ _ h => h) (y_ix2 (j := 2) Tryd.runUnderlying23 Tryd.sizeOf26 rfl rfl rfl rfl (by decide)) (.skip (.keep (.keep (.keep .nil)))) (Fz.le.refl _) ?_
      refine dT 5 rfl rfl rfl (by kernel_rfl) (fun _ _ _ h => h) (y_fa F26_3 rfl) (.skip (.keep (.keep (.keep .nil)))) (Fz.le.refl _) ?_
      refine dT 6 rfl rfl rfl (by kernel_rfl) (fun _ _ _ h => h) (y_ld (Says.own (.tail .head)) Tryd.isAgg23 rfl (Nat.zero_add _).symm rfl) (.skip (.keep (.keep (.keep .nil)))) (Fz.le.refl _) ?_
      refine dT 7 rfl rfl rfl (by kernel_rfl) (fun _ _ _ h => h) (y_mv rfl) (.skip (.keep (.keep (.keep .nil)))) (Fz.le.refl _) ?_
      refine dT 8 rfl rfl rfl (by kernel_rfl) (fun _ _ _ h => h) (y_nc rfl) (.skip (.keep (.keep (.keep .nil)))) (Fz.le.refl _) ?_
      refine dT 9 rfl rfl rfl (by kernel_rfl) (fun _ _ _ h => h) (y_fa F246_2 rfl) (.skip (.keep (.keep (.keep .nil)))) (Fz.le.refl _) ?_
      refine dT 10 rfl rfl rfl (by kernel_rfl) (fun _ _ _ h => h) (y_ld (j := 2) (Says.fz (hb.mono le_4)) Tryd.isAgg244 rfl rfl rfl) (.skip (.keep (.keep (.keep .nil)))) (Fz.le.refl _) ?_
      refine dT 11 rfl rfl rfl (by kernel_rfl) (fun _ _ _ h => h) (y_mv rfl) (.skip (.keep (.keep (.keep .nil)))) (Fz.le.refl _) ?_
      obtain ⟨beq_7, oeq_7, haq_7, hlq_7⟩ := ((h1.mono RI8.mono le_4)).rows.at_ (ne_nil_of_lt hk2)
      obtain ⟨ceq_7, hAq_7, hbq_7⟩ := hlq_7 k2 hk2
      obtain rfl : ceq_7 = [.int .i8 (IntKind.i8.wrap ((lT (T.at 2))[k2]).n)] := hAq_7
      refine dT 12 rfl rfl rfl (by kernel_rfl) (fun _ _ _ h => h) (y_ixk (j := k2) Tryd.runUnderlying244 Tryd.sizeOf126 rfl haq_7 rfl rfl hk2) (.skip (.keep (.keep (.keep .nil)))) (Fz.le.refl _) ?_
      refine dT 13 rfl rfl rfl (by kernel_rfl) (fun _ _ _ h => h) (y_ld (Says.fz hbq_7) Tryd.isAgg126 rfl (Nat.add_zero _).symm rfl) (.skip (.keep (.keep (.keep .nil)))) (Fz.le.refl _) ?_
      refine dT 14 rfl rfl rfl (by kernel_rfl) (fun _ _ _ h => h) (y_cv Tryd.runUnderlying126 Tryd.runUnderlying2 rfl (i8_64 _)) (.skip (.keep (.keep (.keep .nil)))) (Fz.le.refl _) ?_
      refine dT 15 rfl rfl rfl (by kernel_rfl) (fun _ _ _ h => h) (y_bd S26 rfl rfl) (.skip (.keep (.keep (.keep .nil)))) (Fz.le.refl _) ?_
      refine dE 16 (by kernel_rfl) rfl ?_
      refine bs' L23 rfl rfl rfl rfl (fun b_8 => ?_)
      refine dN (.skip (.skip (.keep (.keep (.keep .nil))))) (Fz.le.refl _) ?_
      refine dE 17 (by kernel_rfl) rfl ?_
      have hmk : ml2 = k2 := by have h1 := congrArg List.length pk22; rw [List.length_map, List.length_map, List.length_take] at h1; omega
      have hmb := (hf.at 2).lTl
      refine ap (k := 1) (news := f5 (((TC.none : TC), (Tr.mk (IntKind.i8.wrap ((lT (T.at 2))[k2]).n) [] false [] [] : Tr)) : EE)) Tryd.underlying23 I26 rfl rfl pk20 (fun _ => (.tail .head)) (src_says Tryd.underlying23 rfl (fun _ => Says.own .head) (f5_one _)) (by omega) (by unfold maxLen; omega) rfl (fun a79 c79 N79 r79 z79 => ?_)
      rw [flatMap_snoc'] at r79
      refine dN (.skip (.skip (.keep (.keep (.keep .nil))))) (Fz.le.refl _) ?_
      refine dE 18 (by kernel_rfl) rfl ?_
      refine ixk (j := 2) Tryd.runUnderlying23 Tryd.sizeOf26 rfl rfl rfl rfl (by decide) rfl ?_
      refine dN (.skip (.skip (.keep (.keep (.keep .nil))))) (Fz.le.refl _) ?_
      refine dT 19 rfl rfl rfl (by kernel_rfl) (fun _ _ _ h => h) (y_fa F26_3 rfl) (.skip (.skip (.keep (.keep (.keep .nil))))) (Fz.le.refl _) ?_
      refine dE 20 (by kernel_rfl) rfl ?_
      refine st Tryd.sizeOf23 rfl rfl rfl rfl (.tail (.tail (.tail .head))) ?_
      refine dNk (by kernel_rfl) ?_
      refine dD (by kernel_rfl) ?_
      refine Nb ?_
      refine drN .head ?_
      refine fun a_ w_ hA hw => ⟨_, _, _, hA.sub ?_, le_4, hw, _, rfl, a79, (ml2 + 1), c79, (es2 ++ [(((TC.none : TC), (Tr.mk (IntKind.i8.wrap ((lT (T.at 2))[k2]).n) [] false [] [] : Tr)) : EE)]), N79, rfl, rfl, r79, (by simp; omega), (map_take_snoc (g := (fun y : Tr => (Tr.mk (IntKind.i8.wrap y.n) [] false [] [] : Tr))) hk2 pk22), (fun p hp => (mem_snoc hp).elim (fun h => (pk23 p h).mono (Fz.le.refl _)) (fun h => h ▸ (.of (.nil _) (.nil _) (.nil _))))⟩
      exact (.cons rfl (.cons rfl (.cons rfl (.cons rfl (.cons rfl (.nil _))))))
    · skip
      refine st Tryd.sizeOf4 rfl rfl rfl rfl .head ?_
      refine dN .nil (Fz.le.refl _) ?_
      refine dE 1 (by kernel_rfl) rfl ?_
      refine st Tryd.sizeOf4 rfl rfl rfl rfl .head ?_
      refine dN .nil (Fz.le.refl _) ?_
      refine dE 3 (by kernel_rfl) rfl ?_
      refine ld (Says.own .head) Tryd.isAgg4 rfl (Nat.zero_add _).symm rfl rfl ?_
      refine dN .nil (Fz.le.refl _) ?_
      refine dD (by kernel_rfl) ?_
      refine drN .head ?_
      refine Nt ?_
      refine cT rfl ?_
      refine sq ?_
      refine rgD 19 (.skip (.keep (.keep (.keep .nil)))) mixed ?_
      refine dT 0 rfl rfl rfl (by kernel_rfl) (fun _ _ _ h => h) (y_fa0 F26_3 rfl) (.skip (.keep (.keep (.keep .nil)))) (Fz.le.refl _) ?_
      refine dT 1 rfl rfl rfl (by kernel_rfl) (fun _ _ _ h => h) (y_ld (Says.own .head) Tryd.isAgg23 rfl (Nat.zero_add _).symm rfl) (.skip (.keep (.keep (.keep .nil)))) (Fz.le.refl _) ?_
      refine dT 2 rfl rfl rfl (by kernel_rfl) (fun _ _ _ h => h) (y_ix2 (j := 2) Tryd.runUnderlying23 Tryd.sizeOf26 rfl rfl rfl rfl (by decide)) (.skip (.keep (.keep (.keep .nil)))) (Fz.le.refl _) ?_
      refine dT 3 rfl rfl rfl (by kernel_rfl) (fun _ _ _ h => h) (y_fa F26_3 rfl) (.skip (.keep (.keep (.keep .nil)))) (Fz.le.refl _) ?_
      refine dT 4 rfl rfl rfl (by kernel_rfl) (fun _ _ _ h => h) (y_ld (Says.own (.tail .head)) Tryd.isAgg23 rfl (Nat.zero_add _).symm rfl) (.skip (.keep (.keep (.keep .nil)))) (Fz.le.refl _) ?_
      refine dT 5 rfl rfl rfl (by kernel_rfl) (fun _ _ _ h => h) (y_mv rfl) (.skip (.keep (.keep (.keep .nil)))) (Fz.le.refl _) ?_
      refine dT 6 rfl rfl rfl (by kernel_rfl) (fun _ _ _ h => h) (y_nc rfl) (.skip (.keep (.keep (.keep .nil)))) (Fz.le.refl _) ?_
      refine dT 7 rfl rfl rfl (by kernel_rfl) (fun _ _ _ h => h) (y_fa F246_2 rfl) (.skip (.keep (.keep (.keep .nil)))) (Fz.le.refl _) ?_
      refine dT 8 rfl rfl rfl (by kernel_rfl) (fun _ _ _ h => h) (y_ld (j := 2) (Says.fz (hb.mono le_4)) Tryd.isAgg244 rfl rfl rfl) (.skip (.keep (.keep (.keep .nil)))) (Fz.le.refl _) ?_
      refine dT 9 rfl rfl rfl (by kernel_rfl) (fun _ _ _ h => h) (y_mv rfl) (.skip (.keep (.keep (.keep .nil)))) (Fz.le.refl _) ?_
      obtain ⟨beq_9, oeq_9, haq_9, hlq_9⟩ := ((h1.mono RI8.mono le_4)).rows.at_ (ne_nil_of_lt hk2)
      obtain ⟨ceq_9, hAq_9, hbq_9⟩ := hlq_9 k2 hk2
      obtain rfl : ceq_9 = [.int .i8 (IntKind.i8.wrap ((lT (T.at 2))[k2]).n)] := hAq_9
      refine dT 10 rfl rfl rfl (by kernel_rfl) (fun _ _ _ h => h) (y_ixk (j := k2) Tryd.runUnderlying244 Tryd.sizeOf126 rfl haq_9 rfl rfl hk2) (.skip (.keep (.keep (.keep .nil)))) (Fz.le.refl _) ?_
      refine dT 11 rfl rfl rfl (by kernel_rfl) (fun _ _ _ h => h) (y_ld (Says.fz hbq_9) Tryd.isAgg126 rfl (Nat.add_zero _).symm rfl) (.skip (.keep (.keep (.keep .nil)))) (Fz.le.refl _) ?_
      refine dT 12 rfl rfl rfl (by kernel_rfl) (fun _ _ _ h => h) (y_cv Tryd.runUnderlying126 Tryd.runUnderlying2 rfl (i8_64 _)) (.skip (.keep (.keep (.keep .nil)))) (Fz.le.refl _) ?_
      refine dT 13 rfl rfl rfl (by kernel_rfl) (fun _ _ _ h => h) (y_bd S26 rfl rfl) (.skip (.keep (.keep (.keep .nil)))) (Fz.le.refl _) ?_
      refine dT 14 rfl rfl rfl (by kernel_rfl) (fun _ _ _ h => h) (y_ls Tryd.runUnderlying23 rfl) (.skip (.keep (.keep (.keep .nil)))) (Fz.le.refl _) ?_
      refine dE 15 (by kernel_rfl) rfl ?_
      refine bs' L23 rfl rfl rfl rfl (fun b_10 => ?_)
      refine dN (.skip (.skip (.keep (.keep (.keep .nil))))) (Fz.le.refl _) ?_
      refine dE 16 (by kernel_rfl) rfl ?_
      have hmk : ml2 = k2 := by have h1 := congrArg List.length pk22; rw [List.length_map, List.length_map, List.length_take] at h1; omega
      have hmb := (hf.at 2).lTl
      refine ap (k := 1) (news := f5 ((TC.none, Tr.none) : EE)) Tryd.underlying23 I26 rfl rfl pk20 (fun _ => (.tail .head)) (src_says Tryd.underlying23 rfl (fun _ => Says.own .head) (f5_one _)) (by omega) (by unfold maxLen; omega) rfl (fun a58 c58 N58 r58 z58 => ?_)
      refine dN (.skip (.skip (.keep (.keep (.keep .nil))))) (Fz.le.refl _) ?_
      refine dE 17 (by kernel_rfl) rfl ?_
      refine ixk (j := 2) Tryd.runUnderlying23 Tryd.sizeOf26 rfl rfl rfl rfl (by decide) rfl ?_
      refine dN (.skip (.skip (.keep (.keep (.keep .nil))))) (Fz.le.refl _) ?_
      refine dT 18 rfl rfl rfl (by kernel_rfl) (fun _ _ _ h => h) (y_fa F26_3 rfl) (.skip (.skip (.keep (.keep (.keep .nil))))) (Fz.le.refl _) ?_
      refine dE 19 (by kernel_rfl) rfl ?_
      refine st Tryd.sizeOf23 rfl rfl rfl rfl (.tail (.tail (.tail .head))) ?_
      refine dNk (by kernel_rfl) ?_
      refine dD (by kernel_rfl) ?_
      refine Nt ?_
      refine rg ?_
      obtain ⟨gg58, hgg58⟩ := r58.addr (by omega)
      refine ixk (j := ml2) Tryd.runUnderlying23 Tryd.sizeOf26 rfl hgg58 rfl rfl (by omega) rfl ?_
      refine sR (ds := f5 (((TC.none : TC), (Tr.mk (IntKind.i8.wrap ((lT (T.at 2))[k2]).n) [] false [] [] : Tr)) : EE)) r58 hgg58 (fun _ => (.tail .head)) Tryd.sizeOf26 rfl rfl rfl rfl (by omega) (fun N58b r58b => ?_)
      rw [row_put (k := 5) (m := ml2) (A := es2.flatMap f5) (by rw [flatMap_len f5 5 f5_len, pk21]) rfl, flatMap_snoc'] at r58b
      refine nN ?_
      refine Nb ?_
      refine drN .head ?_
      refine fun a_ w_ hA hw => ⟨_, _, _, hA.sub ?_, le_4, hw, _, rfl, a58, (ml2 + 1), c58, (es2 ++ [(((TC.none : TC), (Tr.mk (IntKind.i8.wrap ((lT (T.at 2))[k2]).n) [] false [] [] : Tr)) : EE)]), N58b, rfl, rfl, r58b, (by simp; omega), (map_take_snoc (g := (fun y : Tr => (Tr.mk (IntKind.i8.wrap y.n) [] false [] [] : Tr))) hk2 pk22), (fun p hp => (mem_snoc hp).elim (fun h => (pk23 p h).mono (Fz.le.refl _)) (fun h => h ▸ (.of (.nil _) (.nil _) (.nil _))))⟩
      exact (.cons rfl (.cons rfl (.cons rfl (.cons rfl (.cons rfl (.nil _))))))
  · skip
    obtain ⟨al2, ml2, cl2, es2, Nl2, rfl, rfl, pk20, pk21, pk22, pk23⟩ := hI
    refine toWp ?_
    have hes2 : es2.map (·.2) = (lT (T.at 2)).map (fun y : Tr => (Tr.mk (IntKind.i8.wrap y.n) [] false [] [] : Tr)) := by rw [pk22, List.take_length]
    have hm2 : ml2 = ((lT (T.at 2)).map (fun y : Tr => (Tr.mk (IntKind.i8.wrap y.n) [] false [] [] : Tr))).length := by rw [← hes2, List.length_map]; exact pk21
    refine frW pk20 .head (fun Hl2 hll2 hzl2 => ?_)
    have ht2 := TreesAt.row hzl2 pk21 pk20.le.1 (by have h1 := congrArg List.length hes2; rw [List.length_map, List.length_map] at h1; unfold B47; omega) (fun p hp => (pk23 p hp).mono hll2)
    rw [hes2] at ht2
    subst hm2
    refine sr ?_
    refine mv rfl rfl ?_
    refine nc rfl rfl ?_
    refine fa F246_3 rfl rfl ?_
    refine mkf rfl rfl ?_
    obtain ⟨kvs, hM, hlen, hel⟩ := (h2.mono (le_5.trans hll2))
    have hfu := hf.u
    refine cl rfl rfl rfl (t_each (j := 3) (I := fun i H1 Y => TgI 61 b_3 26 (.int .i64 0) (.slice none 0 0) (.bool false) (_) T.u i H1 Y) (hb.mono (le_5.trans hll2)) rfl hM (by omega) (fun i H1 H2 Y hle h => h.mono hle) TgI.start (fun i k v H1 Y L1 hi hle hI => ?_)) rfl (fun v_ H1 L1 le_12 hR_ => ?_)
    · obtain ⟨s, h1, ⟨va, vc, rfl, hx⟩, h2, h3⟩ := hel i k v hi
      have hik := sortKv_lt hi
      exact TgI.step (fun {_ _ _ _ _ _ _ _ _ _ _ _ _ _ _ _} => tc_276) hf.v (by omega) h1 (hx.mono hle) h2 h3 hI
    rw [hlen] at hR_
    obtain ⟨_, rfl, aU, cU, NU, esU, rfl, hrU, heU, hgU⟩ := hR_
    refine splL ?_
    rw [List.take_length] at heU
    refine frL hrU (.tail .head) (fun HU hleU hzU => ?_)
    have hU := (TagsAt.told hzU hrU heU hfu (fun p hp => (hgU p hp).mono hleU)).1
    refine nl ?_
    refine sr ?_
    refine fa0 F26_4 rfl rfl ?_
    refine ld (Says.own .head) Tryd.isAgg24 rfl (Nat.zero_add _).symm rfl rfl ?_
    refine cl rfl rfl rfl (k_sorted hU (h2.mono (le_5.trans (hll2.trans (le_12.trans hleU)))).rise) rfl (fun v_ H1 L1 hle_ hR_ => ?_)
    obtain ⟨rfl, rfl⟩ := hR_
    refine nl ?_
    refine sr ?_
    refine la (Says.own .head) Tryd.isAgg26 Tryd.sizeOf26 rfl (Nat.zero_add _).symm rfl rfl ?_
    refine sa Tryd.sizeOf26 rfl rfl rfl rfl rfl (.tail (.tail .head)) ?_
    refine nl ?_
    refine drW .head ?_
    refine frW (Row.whole (e := 26) (size := 5) (m := 3) (ds := [.int .i64 (T.at 0).n, .slice none 0 0, .bool false, .slice none 0 0, .slice none 0 0, .int .i64 (T.at 1).n, .slice none 0 0, .bool false, .slice none 0 0, .slice none 0 0, .int .i64 0, .slice none 0 0, .bool a2.isNone, .slice al2 ((lT (T.at 2)).map (fun y : Tr => (Tr.mk (IntKind.i8.wrap y.n) [] false [] [] : Tr))).length cl2, .slice none 0 0]) rfl (by unfold maxLen; omega)) .head (fun H9 hle9 hz9 => ?_)
    have hrb : H9.at b_2 0 [.int .i64 (T.at 0).n, .slice none 0 0, .bool false, .slice none 0 0, .slice none 0 0, .int .i64 (T.at 1).n, .slice none 0 0, .bool false, .slice none 0 0, .slice none 0 0, .int .i64 0, .slice none 0 0, .bool a2.isNone, .slice al2 ((lT (T.at 2)).map (fun y : Tr => (Tr.mk (IntKind.i8.wrap y.n) [] false [] [] : Tr))).length cl2, .slice none 0 0] := by
      rcases hz9 with ⟨h, _⟩ | ⟨g, h, h2⟩
      · cases h
      · cases h; exact h2
    rw [(h1).nul] at hrb
    have hrb2 : H9.at b_2 0 (([((TC.none : TC), (Tr.mk (T.at 0).n [] false [] [] : Tr)), ((TC.none : TC), (Tr.mk (T.at 1).n [] false [] [] : Tr)), ((⟨none, 0, al2, cl2, none, 0⟩ : TC), (Tr.mk 0 [] (T.at 2).nul ((lT (T.at 2)).map (fun y : Tr => (Tr.mk (IntKind.i8.wrap y.n) [] false [] [] : Tr))) [] : Tr))] : List EE).flatMap fun p => p.1.cells p.2) := by exact hrb
    have hl9 : TreesAt H9 (some ⟨b_2, 0, none⟩) 3 [(.mk (T.at 0).n [] false [] []), (.mk (T.at 1).n [] false [] []), (.mk 0 [] (T.at 2).nul ((lT (T.at 2)).map (fun y : Tr => (Tr.mk (IntKind.i8.wrap y.n) [] false [] [] : Tr))) [])] := by
      refine TreesAt.row (es := [((TC.none : TC), (Tr.mk (T.at 0).n [] false [] [] : Tr)), ((TC.none : TC), (Tr.mk (T.at 1).n [] false [] [] : Tr)), ((⟨none, 0, al2, cl2, none, 0⟩ : TC), (Tr.mk 0 [] (T.at 2).nul ((lT (T.at 2)).map (fun y : Tr => (Tr.mk (IntKind.i8.wrap y.n) [] false [] [] : Tr))) [] : Tr))]) (.inr ⟨_, rfl, hrb2⟩) rfl (Nat.le_refl _) (Nat.le_of_ble_eq_true rfl) ?_
      intro p hp
      simp only [List.mem_cons, List.not_mem_nil, or_false] at hp
      rcases hp with rfl | rfl | rfl
      · exact (.of (.nil _) (.nil _) (.nil _))
      · exact (.of (.nil _) (.nil _) (.nil _))
      · exact (.of (.nil _) (ht2.mono (le_12.trans (hleU.trans hle9))) (.nil _))
    exact rC rfl Tryd.isAgg26 Tryd.sizeOf26 rfl .head rfl (le_5.trans (hll2.trans (le_12.trans (hleU.trans hle9)))) (fun _ _ h => h) ⟨rfl, ⟨none, 0, some ⟨b_2, 0, none⟩, 3, aU, cU⟩, rfl, .of (.nil _) hl9 (hU.mono hle9)⟩
def tl_ShareFetchRequestTopicPartition (T : Tr) : Tr := .mk 0 [] false [(.mk (IntKind.i32.wrap (T.at 0).n) [] false [] []), (.mk (IntKind.i32.wrap (T.at 1).n) [] false [] []), (.mk 0 [] (T.at 2).nul ((lT (T.at 2)).map tl_ShareFetchRequestTopicPartitionAcknowledgementBatch) [])] T.u
theorem te_ShareFetchRequestTopicPartition {H : Fz} {L : Own} {b o : Nat} {cs : List Value} {T : Tr} (hb : H.at b o cs) (hA : At_ShareFetchRequestTopicPartition H T cs) (hf : Fits T) :
    Fn Tryd.prog 228 [.pointer (some ⟨b, o, none⟩)] H L (fun v H' L' => L = L' ∧ ∃ c : TC, v = .agg (c.cells (tl_ShareFetchRequestTopicPartition T)).toArray ∧ TreeAt H' c (tl_ShareFetchRequestTopicPartition T)) := by
  obtain ⟨a2, c2, mt, rfl, h1, h2⟩ := hA
  refine Fn.mk Tryd.call228 Tryd.func228 rfl Tryd.ntmps228 rfl ?_
  refine sr ?_
  refine al Tryd.zeroValue26 rfl rfl (fun b_1 => ?_)
  refine nl ?_
  refine sr ?_
  refine mkC (m := 3) (zs := [.int .i64 0, .slice none 0 0, .bool false, .slice none 0 0, .slice none 0 0]) Tryd.underlying23 I26 rfl rfl rfl rfl rfl rfl (by decide) (by unfold maxLen; omega) rfl (fun b_2 => ?_)
  refine bd' S26 rfl rfl rfl ?_
  refine al Tryd.zeroValue26 rfl rfl (fun b_3 => ?_)
  refine sa Tryd.sizeOf26 rfl rfl rfl rfl rfl .head ?_
  refine nl ?_
  refine sq ?_
  refine rgD 9 (.keep (.keep (.keep .nil))) mixed ?_
  refine dT 0 rfl rfl rfl (by kernel_rfl) (fun _ _ _ h => h) (y_fa0 F26_3 rfl) (.keep (.keep (.keep .nil))) (Fz.le.refl _) ?_
  refine dT 1 rfl rfl rfl (by kernel_rfl) (fun _ _ _ h => h) (y_ld (Says.own .head) Tryd.isAgg23 rfl (Nat.zero_add _).symm rfl) (.keep (.keep (.keep .nil))) (Fz.le.refl _) ?_
  refine dT 2 rfl rfl rfl (by kernel_rfl) (fun _ _ _ h => h) (y_mv rfl) (.keep (.keep (.keep .nil))) (Fz.le.refl _) ?_
  refine dT 3 rfl rfl rfl (by kernel_rfl) (fun _ _ _ h => h) (y_nc rfl) (.keep (.keep (.keep .nil))) (Fz.le.refl _) ?_
  refine dT 4 rfl rfl rfl (by kernel_rfl) (fun _ _ _ h => h) (y_fa F242_0 rfl) (.keep (.keep (.keep .nil))) (Fz.le.refl _) ?_
  refine dT 5 rfl rfl rfl (by kernel_rfl) (fun _ _ _ h => h) (y_ld (j := 0) (Says.fz hb) Tryd.isAgg21 rfl (Nat.add_zero _).symm rfl) (.keep (.keep (.keep .nil))) (Fz.le.refl _) ?_
  refine dT 6 rfl rfl rfl (by kernel_rfl) (fun _ _ _ h => h) (y_cv Tryd.runUnderlying21 Tryd.runUnderlying2 rfl (i32_64 _)) (.keep (.keep (.keep .nil))) (Fz.le.refl _) ?_
  refine dT 7 rfl rfl rfl (by kernel_rfl) (fun _ _ _ h => h) (y_bd S26 rfl rfl) (.keep (.keep (.keep .nil))) (Fz.le.refl _) ?_
  refine dT 8 rfl rfl rfl (by kernel_rfl) (fun _ _ _ h => h) (y_ix2 (j := 0) Tryd.runUnderlying23 Tryd.sizeOf26 rfl rfl rfl rfl (by decide)) (.keep (.keep (.keep .nil))) (Fz.le.refl _) ?_
  refine dE 9 (by kernel_rfl) rfl ?_
  refine sa Tryd.sizeOf26 rfl rfl rfl rfl rfl (.tail .head) ?_
  refine dNk (by kernel_rfl) ?_
  refine dD (by kernel_rfl) ?_
  refine Nt ?_
  refine sq ?_
  refine rgD 9 (.keep (.keep (.keep .nil))) mixed ?_
  refine dT 0 rfl rfl rfl (by kernel_rfl) (fun _ _ _ h => h) (y_fa0 F26_3 rfl) (.keep (.keep (.keep .nil))) (Fz.le.refl _) ?_
  refine dT 1 rfl rfl rfl (by kernel_rfl) (fun _ _ _ h => h) (y_ld (Says.own .head) Tryd.isAgg23 rfl (Nat.zero_add _).symm rfl) (.keep (.keep (.keep .nil))) (Fz.le.refl _) ?_
  refine dT 2 rfl rfl rfl (by kernel_rfl) (fun _ _ _ h => h) (y_mv rfl) (.keep (.keep (.keep .nil))) (Fz.le.refl _) ?_
  refine dT 3 rfl rfl rfl (by kernel_rfl) (fun _ _ _ h => h) (y_nc rfl) (.keep (.keep (.keep .nil))) (Fz.le.refl _) ?_
  refine dT 4 rfl rfl rfl (by kernel_rfl) (fun _ _ _ h => h) (y_fa F242_1 rfl) (.keep (.keep (.keep .nil))) (Fz.le.refl _) ?_
  refine dT 5 rfl rfl rfl (by kernel_rfl) (fun _ _ _ h => h) (y_ld (j := 1) (Says.fz hb) Tryd.isAgg21 rfl rfl rfl) (.keep (.keep (.keep .nil))) (Fz.le.refl _) ?_
  refine dT 6 rfl rfl rfl (by kernel_rfl) (fun _ _ _ h => h) (y_cv Tryd.runUnderlying21 Tryd.runUnderlying2 rfl (i32_64 _)) (.keep (.keep (.keep .nil))) (Fz.le.refl _) ?_
  refine dT 7 rfl rfl rfl (by kernel_rfl) (fun _ _ _ h => h) (y_bd S26 rfl rfl) (.keep (.keep (.keep .nil))) (Fz.le.refl _) ?_
  refine dT 8 rfl rfl rfl (by kernel_rfl) (fun _ _ _ h => h) (y_ix2 (j := 1) Tryd.runUnderlying23 Tryd.sizeOf26 rfl rfl rfl rfl (by decide)) (.keep (.keep (.keep .nil))) (Fz.le.refl _) ?_
  refine dE 9 (by kernel_rfl) rfl ?_
  refine sa Tryd.sizeOf26 rfl rfl rfl rfl rfl (.tail .head) ?_
  refine dNk (by kernel_rfl) ?_
  refine dD (by kernel_rfl) ?_
  refine Nt ?_
  refine sq ?_
  refine rgD 9 (.keep (.keep (.keep .nil))) mixed ?_
  refine dT 0 rfl rfl rfl (by kernel_rfl) (fun _ _ _ h => h) (y_fa0 F26_3 rfl) (.keep (.keep (.keep .nil))) (Fz.le.refl _) ?_
  refine dT 1 rfl rfl rfl (by kernel_rfl) (fun _ _ _ h => h) (y_ld (Says.own .head) Tryd.isAgg23 rfl (Nat.zero_add _).symm rfl) (.keep (.keep (.keep .nil))) (Fz.le.refl _) ?_
  refine dT 2 rfl rfl rfl (by kernel_rfl) (fun _ _ _ h => h) (y_mv rfl) (.keep (.keep (.keep .nil))) (Fz.le.refl _) ?_
  refine dT 3 rfl rfl rfl (by kernel_rfl) (fun _ _ _ h => h) (y_nc rfl) (.keep (.keep (.keep .nil))) (Fz.le.refl _) ?_
  refine dT 4 rfl rfl rfl (by kernel_rfl) (fun _ _ _ h => h) (y_fa F242_2 rfl) (.keep (.keep (.keep .nil))) (Fz.le.refl _) ?_
  refine dT 5 rfl rfl rfl (by kernel_rfl) (fun _ _ _ h => h) (y_ld (j := 2) (Says.fz hb) Tryd.isAgg240 rfl rfl rfl) (.keep (.keep (.keep .nil))) (Fz.le.refl _) ?_
  refine dT 6 rfl rfl rfl (by kernel_rfl) (fun _ _ _ h => h) (y_esn Tryd.underlying240 rfl) (.keep (.keep (.keep .nil))) (Fz.le.refl _) ?_
  refine dE 7 (by kernel_rfl) rfl ?_
  refine ixk (j := 2) Tryd.runUnderlying23 Tryd.sizeOf26 rfl rfl rfl rfl (by decide) rfl ?_
  refine dN (.keep (.keep (.keep .nil))) (Fz.le.refl _) ?_
  refine dT 8 rfl rfl rfl (by kernel_rfl) (fun _ _ _ h => h) (y_fa F26_2 rfl) (.keep (.keep (.keep .nil))) (Fz.le.refl _) ?_
  refine dE 9 (by kernel_rfl) rfl ?_
  refine st Tryd.sizeOf4 rfl rfl rfl rfl (.tail .head) ?_
  refine dNk (by kernel_rfl) ?_
  refine dD (by kernel_rfl) ?_
  refine Nt ?_
  refine sq ?_
  refine sr ?_
  refine mv rfl rfl ?_
  refine nc rfl rfl ?_
  refine fa F242_2 rfl rfl ?_
  refine ld (Says.fz hb) Tryd.isAgg240 rfl rfl rfl rfl ?_
  refine ls Tryd.runUnderlying240 rfl rfl ?_
  refine mv rfl rfl ?_
  refine nl ?_
  have hlm2 := (hf.at 2).lTl
  refine nulC2 ?_
  refine fr ((lT (T.at 2)).length) (fun k2 l' H' L' => ∃ (al2 : Option Addr), ∃ (ml2 : Nat), ∃ (cl2 : Nat), ∃ (es2 : List EE), ∃ (Nl2 : Chunk), [(0, .pointer (some ⟨b, o, none⟩)), (2, .pointer (some ⟨b_1, 0, none⟩)), (3, .pointer (some ⟨b_3, 0, none⟩)), (38, .int .i64 ((lT (T.at 2)).length : Int))] = l' ∧ Nl2 :: [(b_3, .cells [.int .i64 0, .slice none 0 0, .bool false, _, .slice none 0 0].toArray 26 (0, 0))] :: [(b_2, .cells [.int .i64 (IntKind.i32.wrap (T.at 0).n), .slice none 0 0, .bool false, .slice none 0 0, .slice none 0 0, .int .i64 (IntKind.i32.wrap (T.at 1).n), .slice none 0 0, .bool false, .slice none 0 0, .slice none 0 0, .int .i64 0, .slice none 0 0, .bool a2.isNone, .slice al2 ml2 cl2, .slice none 0 0].toArray 26 (0, 0))] :: [(b_1, .cells [.int .i64 0, .slice none 0 0, .bool false, .slice none 0 0, .slice none 0 0].toArray 26 (0, 0))] :: L = L' ∧ Row 26 5 al2 ml2 cl2 (es2.flatMap f5) Nl2 ∧ ml2 = es2.length ∧ es2.map (·.2) = ((lT (T.at 2)).take k2).map tl_ShareFetchRequestTopicPartitionAcknowledgementBatch ∧ (∀ p : EE, p ∈ es2 → TreeAt H' p.1 p.2)) [(0, .pointer (some ⟨b, o, none⟩)), (2, .pointer (some ⟨b_1, 0, none⟩)), (3, .pointer (some ⟨b_3, 0, none⟩)), (38, .int .i64 ((lT (T.at 2)).length : Int))] (fun k2 l' H' L' h => ?_) (by omega) rfl (.cons rfl (.cons rfl (.cons rfl (.cons rfl (.nil _))))) ⟨none, 0, 0, [], [], rfl, rfl, (Row.nil _ _), rfl, (by simp), (fun p hp => by cases hp)⟩ rfl rfl rfl rfl rfl (fun k2 l' H' L' hk2 le_4 hI => ?_) (fun l' H' L' le_5 hI => ?_)
  · obtain ⟨al2, ml2, cl2, es2, Nl2, rfl, _⟩ := h; exact ⟨rfl, rfl, rfl, rfl⟩
  · skip
    obtain ⟨al2, ml2, cl2, es2, Nl2, rfl, rfl, pk20, pk21, pk22, pk23⟩ := hI
    refine sr ?_
    refine mv rfl rfl ?_
    refine asg rfl rfl ?_
    refine nl ?_
    refine sq ?_
    refine rgD 4 .nil mixed ?_
    refine dE 0 (by kernel_rfl) rfl ?_
    refine al Tryd.zeroValue4 rfl rfl (fun b_6 => ?_)
    refine dN .nil (Fz.le.refl _) ?_
    refine dE2 1 2 (by kernel_rfl) rfl rfl ?_ ?_
    · skip
      refine st Tryd.sizeOf4 rfl rfl rfl rfl .head ?_
      refine dN .nil (Fz.le.refl _) ?_
      refine dE 2 (by kernel_rfl) rfl ?_
      refine st Tryd.sizeOf4 rfl rfl rfl rfl .head ?_
      refine dN .nil (Fz.le.refl _) ?_
      refine dE 3 (by kernel_rfl) rfl ?_
      refine ld (Says.own .head) Tryd.isAgg4 rfl (Nat.zero_add _).symm rfl rfl ?_
      refine dN .nil (Fz.le.refl _) ?_
      refine dD (by kernel_rfl) ?_
      refine drN .head ?_
      refine Nt ?_
      refine cF rfl ?_
      refine rgD 18 (.skip (.keep (.keep (.keep .nil)))) mixed ?_
      refine dT 0 rfl rfl rfl (by kernel_rfl) (fun _ _ _ h => h) (y_fa0 F26_3 rfl) (.skip (.keep (.keep (.keep .nil)))) (Fz.le.refl _) ?_
      refine dT 1 rfl rfl rfl (by kernel_rfl) (fun _ _ _ h => h) (y_ld (Says.own .head) Tryd.isAgg23 rfl (Nat.zero_add _).symm rfl) (.skip (.keep (.keep (.keep .nil)))) (Fz.le.refl _) ?_
      refine dT 2 rfl rfl rfl (by kernel_rfl) (fun _ _ _ h => h) (y_fa0 F26_3 rfl) (.skip (.keep (.keep (.keep .nil)))) (Fz.le.refl _) ?_
      refine dT 3 rfl rfl rfl (by kernel_rfl) (fun _ _ _ h => h) (y_ld (Says.own .head) Tryd.isAgg23 rfl (Nat.zero_add _).symm rfl) (.skip (.keep (.keep (.keep .nil)))) (Fz.le.refl _) ?_
      refine dT 4 rfl rfl rfl (by kernel_rfl) (fun _ _ _ h => h) (y_ix2 (j := 2) Tryd.runUnderlying23 Tryd.sizeOf26 rfl rfl rfl rfl (by decide)) (.skip (.keep (.keep (.keep .nil)))) (Fz.le.refl _) ?_
      refine dT 5 rfl rfl rfl (by kernel_rfl) (fun _ _ _ h => h) (y_fa F26_3 rfl) (.skip (.keep (.keep (.keep .nil)))) (Fz.le.refl _) ?_
      refine dT 6 rfl rfl rfl (by kernel_rfl) (fun _ _ _ h => h) (y_ld (Says.own (.tail .head)) Tryd.isAgg23 rfl (Nat.zero_add _).symm rfl) (.skip (.keep (.keep (.keep .nil)))) (Fz.le.refl _) ?_
      refine dT 7 rfl rfl rfl (by kernel_rfl) (fun _ _ _ h => h) (y_mv rfl) (.skip (.keep (.keep (.keep .nil)))) (Fz.le.refl _) ?_
      refine dT 8 rfl rfl rfl (by kernel_rfl) (fun _ _ _ h => h) (y_nc rfl) (.skip (.keep (.keep (.keep .nil)))) (Fz.le.refl _) ?_
      refine dT 9 rfl rfl rfl (by kernel_rfl) (fun _ _ _ h => h) (y_fa F242_2 rfl) (.skip (.keep (.keep (.keep .nil)))) (Fz.le.refl _) ?_
      refine dT 10 rfl rfl rfl (by kernel_rfl) (fun _ _ _ h => h) (y_ld (j := 2) (Says.fz (hb.mono le_4)) Tryd.isAgg240 rfl rfl rfl) (.skip (.keep (.keep (.keep .nil)))) (Fz.le.refl _) ?_
      refine dT 11 rfl rfl rfl (by kernel_rfl) (fun _ _ _ h => h) (y_mv rfl) (.skip (.keep (.keep (.keep .nil)))) (Fz.le.refl _) ?_
      obtain ⟨beq_7, oeq_7, haq_7, hlq_7⟩ := ((h1.mono At_ShareFetchRequestTopicPartitionAcknowledgementBatch.mono le_4)).rows.at_ (ne_nil_of_lt hk2)
      obtain ⟨ceq_7, hAq_7, hbq_7⟩ := hlq_7 k2 hk2
      refine dT 12 rfl rfl rfl (by kernel_rfl) (fun _ _ _ h => h) (y_ixk (j := k2) Tryd.runUnderlying240 Tryd.sizeOf246 rfl haq_7 rfl rfl hk2) (.skip (.keep (.keep (.keep .nil)))) (Fz.le.refl _) ?_
      refine dE 13 (by kernel_rfl) rfl ?_
      refine cl rfl rfl rfl (te_ShareFetchRequestTopicPartitionAcknowledgementBatch hbq_7 (At_ShareFetchRequestTopicPartitionAcknowledgementBatch.mono _ _ _ _ (Fz.le.refl _) hAq_7) ((hf.at 2).lTel (List.getElem_mem hk2))) rfl (fun v_ H1 L1 le_8 hR_ => ?_)
      obtain ⟨rfl, ct75, rfl, hT75⟩ := hR_
      refine dN (.skip (.keep (.keep (.keep .nil)))) le_8 ?_
      refine dE 14 (by kernel_rfl) rfl ?_
      refine bs' L23 rfl rfl rfl rfl (fun b_9 => ?_)
      refine dN (.skip (.skip (.keep (.keep (.keep .nil))))) le_8 ?_
      refine dE 15 (by kernel_rfl) rfl ?_
      have hmk : ml2 = k2 := by have h1 := congrArg List.length pk22; rw [List.length_map, List.length_map, List.length_take] at h1; omega
      have hmb := (hf.at 2).lTl
      refine ap (k := 1) (news := f5 ((ct75, tl_ShareFetchRequestTopicPartitionAcknowledgementBatch (lT (T.at 2))[k2]) : EE)) Tryd.underlying23 I26 rfl rfl pk20 (fun _ => (.tail .head)) (src_says Tryd.underlying23 rfl (fun _ => Says.own .head) (f5_one _)) (by omega) (by unfold maxLen; omega) rfl (fun a77 c77 N77 r77 z77 => ?_)
      rw [flatMap_snoc'] at r77
      refine dN (.skip (.skip (.keep (.keep (.keep .nil))))) le_8 ?_
      refine dE 16 (by kernel_rfl) rfl ?_
      refine ixk (j := 2) Tryd.runUnderlying23 Tryd.sizeOf26 rfl rfl rfl rfl (by decide) rfl ?_
      refine dN (.skip (.skip (.keep (.keep (.keep .nil))))) le_8 ?_
      refine dT 17 rfl rfl rfl (by kernel_rfl) (fun _ _ _ h => h) (y_fa F26_3 rfl) (.skip (.skip (.keep (.keep (.keep .nil))))) le_8 ?_
      refine dE 18 (by kernel_rfl) rfl ?_
      refine st Tryd.sizeOf23 rfl rfl rfl rfl (.tail (.tail (.tail .head))) ?_
      refine dNk (by kernel_rfl) ?_
      refine dD (by kernel_rfl) ?_
      refine Nb ?_
      refine drN .head ?_
      refine fun a_ w_ hA hw => ⟨_, _, _, hA.sub ?_, (le_4.trans le_8), hw, _, rfl, a77, (ml2 + 1), c77, (es2 ++ [((ct75, tl_ShareFetchRequestTopicPartitionAcknowledgementBatch (lT (T.at 2))[k2]) : EE)]), N77, rfl, rfl, r77, (by simp; omega), (map_take_snoc (g := tl_ShareFetchRequestTopicPartitionAcknowledgementBatch) hk2 pk22), (fun p hp => (mem_snoc hp).elim (fun h => (pk23 p h).mono le_8) (fun h => h ▸ hT75))⟩
      exact (.cons rfl (.cons rfl (.cons rfl (.cons rfl (.cons rfl (.nil _))))))
    · skip
      refine st Tryd.sizeOf4 rfl rfl rfl rfl .head ?_
      refine dN .nil (Fz.le.refl _) ?_
      refine dE 1 (by kernel_rfl) rfl ?_
      refine st Tryd.sizeOf4 rfl rfl rfl rfl .head ?_
      refine dN .nil (Fz.le.refl _) ?_
      refine dE 3 (by kernel_rfl) rfl ?_
      refine ld (Says.own .head) Tryd.isAgg4 rfl (Nat.zero_add _).symm rfl rfl ?_
      refine dN .nil (Fz.le.refl _) ?_
      refine dD (by kernel_rfl) ?_
      refine drN .head ?_
      refine Nt ?_
      refine cT rfl ?_
      refine sq ?_
      refine rgD 17 (.skip (.keep (.keep (.keep .nil)))) mixed ?_
      refine dT 0 rfl rfl rfl (by kernel_rfl) (fun _ _ _ h => h) (y_fa0 F26_3 rfl) (.skip (.keep (.keep (.keep .nil)))) (Fz.le.refl _) ?_
      refine dT 1 rfl rfl rfl (by kernel_rfl) (fun _ _ _ h => h) (y_ld (Says.own .head) Tryd.isAgg23 rfl (Nat.zero_add _).symm rfl) (.skip (.keep (.keep (.keep .nil)))) (Fz.le.refl _) ?_
      refine dT 2 rfl rfl rfl (by kernel_rfl) (fun _ _ _ h => h) (y_ix2 (j := 2) Tryd.runUnderlying23 Tryd.sizeOf26 rfl rfl rfl rfl (by decide)) (.skip (.keep (.keep (.keep .nil)))) (Fz.le.refl _) ?_
      refine dT 3 rfl rfl rfl (by kernel_rfl) (fun _ _ _ h => h) (y_fa F26_3 rfl) (.skip (.keep (.keep (.keep .nil)))) (Fz.le.refl _) ?_
      refine dT 4 rfl rfl rfl (by kernel_rfl) (fun _ _ _ h => h) (y_ld (Says.own (.tail .head)) Tryd.isAgg23 rfl (Nat.zero_add _).symm rfl) (.skip (.keep (.keep (.keep .nil)))) (Fz.le.refl _) ?_
      refine dT 5 rfl rfl rfl (by kernel_rfl) (fun _ _ _ h => h) (y_mv rfl) (.skip (.keep (.keep (.keep .nil)))) (Fz.le.refl _) ?_
      refine dT 6 rfl rfl rfl (by kernel_rfl) (fun _ _ _ h => h) (y_nc rfl) (.skip (.keep (.keep (.keep .nil)))) (Fz.le.refl _) ?_
      refine dT 7 rfl rfl rfl (by kernel_rfl) (fun _ _ _ h => h) (y_fa F242_2 rfl) (.skip (.keep (.keep (.keep .nil)))) (Fz.le.refl _) ?_
      refine dT 8 rfl rfl rfl (by kernel_rfl) (fun _ _ _ h => h) (y_ld (j := 2) (Says.fz (hb.mono le_4)) Tryd.isAgg240 rfl rfl rfl) (.skip (.keep (.keep (.keep .nil)))) (Fz.le.refl _) ?_
      refine dT 9 rfl rfl rfl (by kernel_rfl) (fun _ _ _ h => h) (y_mv rfl) (.skip (.keep (.keep (.keep .nil)))) (Fz.le.refl _) ?_
      obtain ⟨beq_10, oeq_10, haq_10, hlq_10⟩ := ((h1.mono At_ShareFetchRequestTopicPartitionAcknowledgementBatch.mono le_4)).rows.at_ (ne_nil_of_lt hk2)
      obtain ⟨ceq_10, hAq_10, hbq_10⟩ := hlq_10 k2 hk2
      refine dT 10 rfl rfl rfl (by kernel_rfl) (fun _ _ _ h => h) (y_ixk (j := k2) Tryd.runUnderlying240 Tryd.sizeOf246 rfl haq_10 rfl rfl hk2) (.skip (.keep (.keep (.keep .nil)))) (Fz.le.refl _) ?_
      refine dT 12 rfl rfl rfl (by kernel_rfl) (fun _ _ _ h => h) (y_ls Tryd.runUnderlying23 rfl) (.skip (.keep (.keep (.keep .nil)))) (Fz.le.refl _) ?_
      refine dE2 11 13 (by kernel_rfl) rfl rfl ?_ ?_
      · skip
        refine cl rfl rfl rfl (te_ShareFetchRequestTopicPartitionAcknowledgementBatch hbq_10 (At_ShareFetchRequestTopicPartitionAcknowledgementBatch.mono _ _ _ _ (Fz.le.refl _) hAq_10) ((hf.at 2).lTel (List.getElem_mem hk2))) rfl (fun v_ H1 L1 le_11 hR_ => ?_)
        obtain ⟨rfl, ct55, rfl, hT55⟩ := hR_
        refine dN (.skip (.keep (.keep (.keep .nil)))) le_11 ?_
        refine dE 13 (by kernel_rfl) rfl ?_
        refine bs' L23 rfl rfl rfl rfl (fun b_12 => ?_)
        refine dN (.skip (.skip (.keep (.keep (.keep .nil))))) le_11 ?_
        refine dE 14 (by kernel_rfl) rfl ?_
        have hmk : ml2 = k2 := by have h1 := congrArg List.length pk22; rw [List.length_map, List.length_map, List.length_take] at h1; omega
        have hmb := (hf.at 2).lTl
        refine ap (k := 1) (news := f5 ((TC.none, Tr.none) : EE)) Tryd.underlying23 I26 rfl rfl pk20 (fun _ => (.tail .head)) (src_says Tryd.underlying23 rfl (fun _ => Says.own .head) (f5_one _)) (by omega) (by unfold maxLen; omega) rfl (fun a58 c58 N58 r58 z58 => ?_)
        refine dN (.skip (.skip (.keep (.keep (.keep .nil))))) le_11 ?_
        refine dE 15 (by kernel_rfl) rfl ?_
        refine ixk (j := 2) Tryd.runUnderlying23 Tryd.sizeOf26 rfl rfl rfl rfl (by decide) rfl ?_
        refine dN (.skip (.skip (.keep (.keep (.keep .nil))))) le_11 ?_
        refine dT 16 rfl rfl rfl (by kernel_rfl) (fun _ _ _ h => h) (y_fa F26_3 rfl) (.skip (.skip (.keep (.keep (.keep .nil))))) le_11 ?_
        refine dE 17 (by kernel_rfl) rfl ?_
        refine st Tryd.sizeOf23 rfl rfl rfl rfl (.tail (.tail (.tail .head))) ?_
        refine dNk (by kernel_rfl) ?_
        refine dD (by kernel_rfl) ?_
        refine Nt ?_
        refine rg ?_
        obtain ⟨gg58, hgg58⟩ := r58.addr (by omega)
        refine ixk (j := ml2) Tryd.runUnderlying23 Tryd.sizeOf26 rfl hgg58 rfl rfl (by omega) rfl ?_
        refine sR (ds := f5 ((ct55, tl_ShareFetchRequestTopicPartitionAcknowledgementBatch (lT (T.at 2))[k2]) : EE)) r58 hgg58 (fun _ => (.tail .head)) Tryd.sizeOf26 rfl rfl rfl rfl (by omega) (fun N58b r58b => ?_)
        rw [row_put (k := 5) (m := ml2) (A := es2.flatMap f5) (by rw [flatMap_len f5 5 f5_len, pk21]) rfl, flatMap_snoc'] at r58b
        refine nN ?_
        refine Nb ?_
        refine drN .head ?_
        refine fun a_ w_ hA hw => ⟨_, _, _, hA.sub ?_, (le_4.trans le_11), hw, _, rfl, a58, (ml2 + 1), c58, (es2 ++ [((ct55, tl_ShareFetchRequestTopicPartitionAcknowledgementBatch (lT (T.at 2))[k2]) : EE)]), N58b, rfl, rfl, r58b, (by simp; omega), (map_take_snoc (g := tl_ShareFetchRequestTopicPartitionAcknowledgementBatch) hk2 pk22), (fun p hp => (mem_snoc hp).elim (fun h => (pk23 p h).mono le_11) (fun h => h ▸ hT55))⟩
        exact (.cons rfl (.cons rfl (.cons rfl (.cons rfl (.cons rfl (.nil _))))))
      · skip
        refine bs' L23 rfl rfl rfl rfl (fun b_13 => ?_)
        refine dN (.skip (.skip (.keep (.keep (.keep .nil))))) (Fz.le.refl _) ?_
        refine dE 11 (by kernel_rfl) rfl ?_
        refine cl rfl rfl rfl (te_ShareFetchRequestTopicPartitionAcknowledgementBatch hbq_10 (At_ShareFetchRequestTopicPartitionAcknowledgementBatch.mono _ _ _ _ (Fz.le.refl _) hAq_10) ((hf.at 2).lTel (List.getElem_mem hk2))) rfl (fun v_ H1 L1 le_14 hR_ => ?_)
        obtain ⟨rfl, ct55, rfl, hT55⟩ := hR_
        refine dN (.skip (.skip (.keep (.keep (.keep .nil))))) le_14 ?_
        refine dE 14 (by kernel_rfl) rfl ?_
        have hmk : ml2 = k2 := by have h1 := congrArg List.length pk22; rw [List.length_map, List.length_map, List.length_take] at h1; omega
        have hmb := (hf.at 2).lTl
        refine ap (k := 1) (news := f5 ((TC.none, Tr.none) : EE)) Tryd.underlying23 I26 rfl rfl pk20 (fun _ => (.tail .head)) (src_says Tryd.underlying23 rfl (fun _ => Says.own .head) (f5_one _)) (by omega) (by unfold maxLen; omega) rfl (fun a58 c58 N58 r58 z58 => ?_)
        refine dN (.skip (.skip (.keep (.keep (.keep .nil))))) le_14 ?_
        refine dE 15 (by kernel_rfl) rfl ?_
        refine ixk (j := 2) Tryd.runUnderlying23 Tryd.sizeOf26 rfl rfl rfl rfl (by decide) rfl ?_
        refine dN (.skip (.skip (.keep (.keep (.keep .nil))))) le_14 ?_
        refine dT 16 rfl rfl rfl (by kernel_rfl) (fun _ _ _ h => h) (y_fa F26_3 rfl) (.skip (.skip (.keep (.keep (.keep .nil))))) le_14 ?_
        refine dE 17 (by kernel_rfl) rfl ?_
        refine st Tryd.sizeOf23 rfl rfl rfl rfl (.tail (.tail (.tail .head))) ?_
        refine dNk (by kernel_rfl) ?_
        refine dD (by kernel_rfl) ?_
        refine Nt ?_
        refine rg ?_
        obtain ⟨gg58, hgg58⟩ := r58.addr (by omega)
        refine ixk (j := ml2) Tryd.runUnderlying23 Tryd.sizeOf26 rfl hgg58 rfl rfl (by omega) rfl ?_
        refine sR (ds := f5 ((ct55, tl_ShareFetchRequestTopicPartitionAcknowledgementBatch (lT (T.at 2))[k2]) : EE)) r58 hgg58 (fun _ => (.tail .head)) Tryd.sizeOf26 rfl rfl rfl rfl (by omega) (fun N58b r58b => ?_)
        rw [row_put (k := 5) (m := ml2) (A := es2.flatMap f5) (by rw [flatMap_len f5 5 f5_len, pk21]) rfl, flatMap_snoc'] at r58b
        refine nN ?_
        refine Nb ?_
        refine drN .head ?_
        refine fun a_ w_ hA hw => ⟨_, _, _, hA.sub ?_, (le_4.trans le_14), hw, _, rfl, a58, (ml2 + 1), c58, (es2 ++ [((ct55, tl_ShareFetchRequestTopicPartitionAcknowledgementBatch (lT (T.at 2))[k2]) : EE)]), N58b, rfl, rfl, r58b, (by simp; omega), (map_take_snoc (g := tl_ShareFetchRequestTopicPartitionAcknowledgementBatch) hk2 pk22), (fun p hp => (mem_snoc hp).elim (fun h => (pk23 p h).mono le_14) (fun h => h ▸ hT55))⟩
        exact (.cons rfl (.cons rfl (.cons rfl (.cons rfl (.cons rfl (.nil _))))))
  · skip
    obtain ⟨al2, ml2, cl2, es2, Nl2, rfl, rfl, pk20, pk21, pk22, pk23⟩ := hI
    refine toWp ?_
    have hes2 : es2.map (·.2) = (lT (T.at 2)).map tl_ShareFetchRequestTopicPartitionAcknowledgementBatch := by rw [pk22, List.take_length]
    have hm2 : ml2 = ((lT (T.at 2)).map tl_ShareFetchRequestTopicPartitionAcknowledgementBatch).length := by rw [← hes2, List.length_map]; exact pk21
    refine frW pk20 .head (fun Hl2 hll2 hzl2 => ?_)
    have ht2 := TreesAt.row hzl2 pk21 pk20.le.1 (by have h1 := congrArg List.length hes2; rw [List.length_map, List.length_map] at h1; unfold B47; omega) (fun p hp => (pk23 p hp).mono hll2)
    rw [hes2] at ht2
    subst hm2
    refine sr ?_
    refine mv rfl rfl ?_
    refine nc rfl rfl ?_
    refine fa F242_3 rfl rfl ?_
    refine mkf rfl rfl ?_
    obtain ⟨kvs, hM, hlen, hel⟩ := (h2.mono (le_5.trans hll2))
    have hfu := hf.u
    refine cl rfl rfl rfl (t_each (j := 3) (I := fun i H1 Y => TgI 61 b_3 26 (.int .i64 0) (.slice none 0 0) (.bool false) (_) T.u i H1 Y) (hb.mono (le_5.trans hll2)) rfl hM (by omega) (fun i H1 H2 Y hle h => h.mono hle) TgI.start (fun i k v H1 Y L1 hi hle hI => ?_)) rfl (fun v_ H1 L1 le_16 hR_ => ?_)
    · obtain ⟨s, h1, ⟨va, vc, rfl, hx⟩, h2, h3⟩ := hel i k v hi
      have hik := sortKv_lt hi
      exact TgI.step (fun {_ _ _ _ _ _ _ _ _ _ _ _ _ _ _ _} => tc_254) hf.v (by omega) h1 (hx.mono hle) h2 h3 hI
    rw [hlen] at hR_
    obtain ⟨_, rfl, aU, cU, NU, esU, rfl, hrU, heU, hgU⟩ := hR_
    refine splL ?_
    rw [List.take_length] at heU
    refine frL hrU (.tail .head) (fun HU hleU hzU => ?_)
    have hU := (TagsAt.told hzU hrU heU hfu (fun p hp => (hgU p hp).mono hleU)).1
    refine nl ?_
    refine sr ?_
    refine fa0 F26_4 rfl rfl ?_
    refine ld (Says.own .head) Tryd.isAgg24 rfl (Nat.zero_add _).symm rfl rfl ?_
    refine cl rfl rfl rfl (k_sorted hU (h2.mono (le_5.trans (hll2.trans (le_16.trans hleU)))).rise) rfl (fun v_ H1 L1 hle_ hR_ => ?_)
    obtain ⟨rfl, rfl⟩ := hR_
    refine nl ?_
    refine sr ?_
    refine la (Says.own .head) Tryd.isAgg26 Tryd.sizeOf26 rfl (Nat.zero_add _).symm rfl rfl ?_
    refine sa Tryd.sizeOf26 rfl rfl rfl rfl rfl (.tail (.tail .head)) ?_
    refine nl ?_
    refine drW .head ?_
    refine frW (Row.whole (e := 26) (size := 5) (m := 3) (ds := [.int .i64 (IntKind.i32.wrap (T.at 0).n), .slice none 0 0, .bool false, .slice none 0 0, .slice none 0 0, .int .i64 (IntKind.i32.wrap (T.at 1).n), .slice none 0 0, .bool false, .slice none 0 0, .slice none 0 0, .int .i64 0, .slice none 0 0, .bool a2.isNone, .slice al2 ((lT (T.at 2)).map tl_ShareFetchRequestTopicPartitionAcknowledgementBatch).length cl2, .slice none 0 0]) rfl (by unfold maxLen; omega)) .head (fun H9 hle9 hz9 => ?_)
    have hrb : H9.at b_2 0 [.int .i64 (IntKind.i32.wrap (T.at 0).n), .slice none 0 0, .bool false, .slice none 0 0, .slice none 0 0, .int .i64 (IntKind.i32.wrap (T.at 1).n), .slice none 0 0, .bool false, .slice none 0 0, .slice none 0 0, .int .i64 0, .slice none 0 0, .bool a2.isNone, .slice al2 ((lT (T.at 2)).map tl_ShareFetchRequestTopicPartitionAcknowledgementBatch).length cl2, .slice none 0 0] := by
      rcases hz9 with ⟨h, _⟩ | ⟨g, h, h2⟩
      · cases h
      · cases h; exact h2
    rw [(h1).nul] at hrb
    have hrb2 : H9.at b_2 0 (([((TC.none : TC), (Tr.mk (IntKind.i32.wrap (T.at 0).n) [] false [] [] : Tr)), ((TC.none : TC), (Tr.mk (IntKind.i32.wrap (T.at 1).n) [] false [] [] : Tr)), ((⟨none, 0, al2, cl2, none, 0⟩ : TC), (Tr.mk 0 [] (T.at 2).nul ((lT (T.at 2)).map tl_ShareFetchRequestTopicPartitionAcknowledgementBatch) [] : Tr))] : List EE).flatMap fun p => p.1.cells p.2) := by exact hrb
    have hl9 : TreesAt H9 (some ⟨b_2, 0, none⟩) 3 [(.mk (IntKind.i32.wrap (T.at 0).n) [] false [] []), (.mk (IntKind.i32.wrap (T.at 1).n) [] false [] []), (.mk 0 [] (T.at 2).nul ((lT (T.at 2)).map tl_ShareFetchRequestTopicPartitionAcknowledgementBatch) [])] := by
      refine TreesAt.row (es := [((TC.none : TC), (Tr.mk (IntKind.i32.wrap (T.at 0).n) [] false [] [] : Tr)), ((TC.none : TC), (Tr.mk (IntKind.i32.wrap (T.at 1).n) [] false [] [] : Tr)), ((⟨none, 0, al2, cl2, none, 0⟩ : TC), (Tr.mk 0 [] (T.at 2).nul ((lT (T.at 2)).map tl_ShareFetchRequestTopicPartitionAcknowledgementBatch) [] : Tr))]) (.inr ⟨_, rfl, hrb2⟩) rfl (Nat.le_refl _) (Nat.le_of_ble_eq_true rfl) ?_
      intro p hp
      simp only [List.mem_cons, List.not_mem_nil, or_false] at hp
      rcases hp with rfl | rfl | rfl
      · exact (.of (.nil _) (.nil _) (.nil _))
      · exact (.of (.nil _) (.nil _) (.nil _))
      · exact (.of (.nil _) (ht2.mono (le_16.trans (hleU.trans hle9))) (.nil _))
    exact rC rfl Tryd.isAgg26 Tryd.sizeOf26 rfl .head rfl (le_5.trans (hll2.trans (le_16.trans (hleU.trans hle9)))) (fun _ _ h => h) ⟨rfl, ⟨none, 0, some ⟨b_2, 0, none⟩, 3, aU, cU⟩, rfl, .of (.nil _) hl9 (hU.mono hle9)⟩
def tl_ShareFetchRequestTopic (T : Tr) : Tr := .mk 0 [] false [(.mk 0 (pad16 (T.at 0).s) false [] []), (.mk 0 [] (T.at 1).nul ((lT (T.at 1)).map tl_ShareFetchRequestTopicPartition) [])] T.u
theorem te_ShareFetchRequestTopic {H : Fz} {L : Own} {b o : Nat} {cs : List Value} {T : Tr} (hb : H.at b o cs) (hA : At_ShareFetchRequestTopic H T cs) (hf : Fits T) :
    Fn Tryd.prog 163 [.pointer (some ⟨b, o, none⟩)] H L (fun v H' L' => L = L' ∧ ∃ c : TC, v = .agg (c.cells (tl_ShareFetchRequestTopic T)).toArray ∧ TreeAt H' c (tl_ShareFetchRequestTopic T)) := by
  obtain ⟨a1, c1, mt, rfl, h1, h2⟩ := hA
  refine Fn.mk Tryd.call163 Tryd.func163 rfl Tryd.ntmps163 rfl ?_
  refine sr ?_
  refine al Tryd.zeroValue26 rfl rfl (fun b_1 => ?_)
  refine nl ?_
  refine sr ?_
  refine mkC (m := 2) (zs := [.int .i64 0, .slice none 0 0, .bool false, .slice none 0 0, .slice none 0 0]) Tryd.underlying23 I26 rfl rfl rfl rfl rfl rfl (by decide) (by unfold maxLen; omega) rfl (fun b_2 => ?_)
  refine bd' S26 rfl rfl rfl ?_
  refine al Tryd.zeroValue26 rfl rfl (fun b_3 => ?_)
  refine sa Tryd.sizeOf26 rfl rfl rfl rfl rfl .head ?_
  refine nl ?_
  refine sq ?_
  refine rgD 9 (.keep (.keep (.keep .nil))) mixed ?_
  refine dT 0 rfl rfl rfl (by kernel_rfl) (fun _ _ _ h => h) (y_fa0 F26_3 rfl) (.keep (.keep (.keep .nil))) (Fz.le.refl _) ?_
  refine dT 1 rfl rfl rfl (by kernel_rfl) (fun _ _ _ h => h) (y_ld (Says.own .head) Tryd.isAgg23 rfl (Nat.zero_add _).symm rfl) (.keep (.keep (.keep .nil))) (Fz.le.refl _) ?_
  refine dT 2 rfl rfl rfl (by kernel_rfl) (fun _ _ _ h => h) (y_mv rfl) (.keep (.keep (.keep .nil))) (Fz.le.refl _) ?_
  refine dT 3 rfl rfl rfl (by kernel_rfl) (fun _ _ _ h => h) (y_nc rfl) (.keep (.keep (.keep .nil))) (Fz.le.refl _) ?_
  refine dT 4 rfl rfl rfl (by kernel_rfl) (fun _ _ _ h => h) (y_fa F186_0 rfl) (.keep (.keep (.keep .nil))) (Fz.le.refl _) ?_
  refine dT 5 rfl rfl rfl (by kernel_rfl) (fun _ _ _ h => h) (y_slA Tryd.runUnderlying143 Tryd.sizeOf5 rfl) (.keep (.keep (.keep .nil))) (Fz.le.refl _) ?_
  refine dE 6 (by kernel_rfl) rfl ?_
  have hq13 := pad16_len (T.at 0).s
  refine apn (k := 16) (news := bytesOf (pad16 (T.at 0).s)) Tryd.underlying22 I5 rfl rfl (src_says (m := 16) (size := 1) Tryd.underlying22 (by rw [bytesOf_length, hq13]) (fun _ => Says.fz (by rw [← u16_eq]; exact (hb.part 0 16))) (bytesOf_one _)) (by omega) (by unfold maxLen; omega) rfl (fun a13 c13 N13 r13 => ?_)
  refine frL r13 .head (fun Hu13 hlu13 hz13 => ?_)
  have hb13 := BytesAt.row hz13 r13 (by rw [hq13]; unfold B47; omega)
  refine dN (.keep (.keep (.keep .nil))) hlu13 ?_
  refine dT 7 rfl rfl rfl (by kernel_rfl) (fun _ _ _ h => h) (y_bd S26 rfl rfl) (.keep (.keep (.keep .nil))) hlu13 ?_
  refine dT 8 rfl rfl rfl (by kernel_rfl) (fun _ _ _ h => h) (y_ix2 (j := 0) Tryd.runUnderlying23 Tryd.sizeOf26 rfl rfl rfl rfl (by decide)) (.keep (.keep (.keep .nil))) hlu13 ?_
  refine dE 9 (by kernel_rfl) rfl ?_
  refine sa Tryd.sizeOf26 rfl rfl rfl rfl rfl (.tail .head) ?_
  refine dNk (by kernel_rfl) ?_
  refine dD (by kernel_rfl) ?_
  refine Nt ?_
  refine sq ?_
  refine rgD 9 (.keep (.keep (.keep .nil))) mixed ?_
  refine dT 0 rfl rfl rfl (by kernel_rfl) (fun _ _ _ h => h) (y_fa0 F26_3 rfl) (.keep (.keep (.keep .nil))) (Fz.le.refl _) ?_
  refine dT 1 rfl rfl rfl (by kernel_rfl) (fun _ _ _ h => h) (y_ld (Says.own .head) Tryd.isAgg23 rfl (Nat.zero_add _).symm rfl) (.keep (.keep (.keep .nil))) (Fz.le.refl _) ?_
  refine dT 2 rfl rfl rfl (by kernel_rfl) (fun _ _ _ h => h) (y_mv rfl) (.keep (.keep (.keep .nil))) (Fz.le.refl _) ?_
  refine dT 3 rfl rfl rfl (by kernel_rfl) (fun _ _ _ h => h) (y_nc rfl) (.keep (.keep (.keep .nil))) (Fz.le.refl _) ?_
  refine dT 4 rfl rfl rfl (by kernel_rfl) (fun _ _ _ h => h) (y_fa F186_1 rfl) (.keep (.keep (.keep .nil))) (Fz.le.refl _) ?_
  refine dT 5 rfl rfl rfl (by kernel_rfl) (fun _ _ _ h => h) (y_ld (j := 16) (Says.fz (hb.mono hlu13)) Tryd.isAgg184 rfl rfl rfl) (.keep (.keep (.keep .nil))) (Fz.le.refl _) ?_
  refine dT 6 rfl rfl rfl (by kernel_rfl) (fun _ _ _ h => h) (y_esn Tryd.underlying184 rfl) (.keep (.keep (.keep .nil))) (Fz.le.refl _) ?_
  refine dE 7 (by kernel_rfl) rfl ?_
  refine ixk (j := 1) Tryd.runUnderlying23 Tryd.sizeOf26 rfl rfl rfl rfl (by decide) rfl ?_
  refine dN (.keep (.keep (.keep .nil))) (Fz.le.refl _) ?_
  refine dT 8 rfl rfl rfl (by kernel_rfl) (fun _ _ _ h => h) (y_fa F26_2 rfl) (.keep (.keep (.keep .nil))) (Fz.le.refl _) ?_
  refine dE 9 (by kernel_rfl) rfl ?_
  refine st Tryd.sizeOf4 rfl rfl rfl rfl (.tail .head) ?_
  refine dNk (by kernel_rfl) ?_
  refine dD (by kernel_rfl) ?_
  refine Nt ?_
  refine sq ?_
  refine sr ?_
  refine mv rfl rfl ?_
  refine nc rfl rfl ?_
  refine fa F186_1 rfl rfl ?_
  refine ld (Says.fz (hb.mono hlu13)) Tryd.isAgg184 rfl rfl rfl rfl ?_
  refine ls Tryd.runUnderlying184 rfl rfl ?_
  refine mv rfl rfl ?_
  refine nl ?_
  have hlm1 := (hf.at 1).lTl
  refine nulC2 ?_
  refine fr ((lT (T.at 1)).length) (fun k1 l' H' L' => ∃ (al1 : Option Addr), ∃ (ml1 : Nat), ∃ (cl1 : Nat), ∃ (es1 : List EE), ∃ (Nl1 : Chunk), [(0, .pointer (some ⟨b, o, none⟩)), (2, .pointer (some ⟨b_1, 0, none⟩)), (3, .pointer (some ⟨b_3, 0, none⟩)), (29, .int .i64 ((lT (T.at 1)).length : Int))] = l' ∧ Nl1 :: [(b_3, .cells [.int .i64 0, .slice none 0 0, .bool false, _, .slice none 0 0].toArray 26 (0, 0))] :: [(b_2, .cells [.int .i64 0, .slice a13 16 c13, .bool false, .slice none 0 0, .slice none 0 0, .int .i64 0, .slice none 0 0, .bool a1.isNone, .slice al1 ml1 cl1, .slice none 0 0].toArray 26 (0, 0))] :: [(b_1, .cells [.int .i64 0, .slice none 0 0, .bool false, .slice none 0 0, .slice none 0 0].toArray 26 (0, 0))] :: L = L' ∧ Row 26 5 al1 ml1 cl1 (es1.flatMap f5) Nl1 ∧ ml1 = es1.length ∧ es1.map (·.2) = ((lT (T.at 1)).take k1).map tl_ShareFetchRequestTopicPartition ∧ (∀ p : EE, p ∈ es1 → TreeAt H' p.1 p.2)) [(0, .pointer (some ⟨b, o, none⟩)), (2, .pointer (some ⟨b_1, 0, none⟩)), (3, .pointer (some ⟨b_3, 0, none⟩)), (29, .int .i64 ((lT (T.at 1)).length : Int))] (fun k1 l' H' L' h => ?_) (by omega) rfl (.cons rfl (.cons rfl (.cons rfl (.cons rfl (.nil _))))) ⟨none, 0, 0, [], [], rfl, rfl, (Row.nil _ _), rfl, (by simp), (fun p hp => by cases hp)⟩ rfl rfl rfl rfl rfl (fun k1 l' H' L' hk1 le_4 hI => ?_) (fun l' H' L' le_5 hI => ?_)
  · obtain ⟨al1, ml1, cl1, es1, Nl1, rfl, _⟩ := h; exact ⟨rfl, rfl, rfl, rfl⟩
  · skip
    obtain ⟨al1, ml1, cl1, es1, Nl1, rfl, rfl, pk10, pk11, pk12, pk13⟩ := hI
    refine sr ?_
    refine mv rfl rfl ?_
    refine asg rfl rfl ?_
    refine nl ?_
    refine sq ?_
    refine rgD 4 .nil mixed ?_
    refine dE 0 (by kernel_rfl) rfl ?_
    refine al Tryd.zeroValue4 rfl rfl (fun b_6 => ?_)
    refine dN .nil (Fz.le.refl _) ?_
    refine dE2 1 2 (by kernel_rfl) rfl rfl ?_ ?_
    · skip
      refine st Tryd.sizeOf4 rfl rfl rfl rfl .head ?_
      refine dN .nil (Fz.le.refl _) ?_
      refine dE 2 (by kernel_rfl) rfl ?_
      refine st Tryd.sizeOf4 rfl rfl rfl rfl .head ?_
      refine dN .nil (Fz.le.refl _) ?_
      refine dE 3 (by kernel_rfl) rfl ?_
      refine ld (Says.own .head) Tryd.isAgg4 rfl (Nat.zero_add _).symm rfl rfl ?_
      refine dN .nil (Fz.le.refl _) ?_
      refine dD (by kernel_rfl) ?_
      refine drN .head ?_
      refine Nt ?_
      refine cF rfl ?_
      refine rgD 18 (.skip (.keep (.keep (.keep .nil)))) mixed ?_
      refine dT 0 rfl rfl rfl (by kernel_rfl) (fun _ _ _ h => h) (y_fa0 F26_3 rfl) (.skip (.keep (.keep (.keep .nil)))) (Fz.le.refl _) ?_
      refine dT 1 rfl rfl rfl (by kernel_rfl) (fun _ _ _ h => h) (y_ld (Says.own .head) Tryd.isAgg23 rfl (Nat.zero_add _).symm rfl) (.skip (.keep (.keep (.keep .nil)))) (Fz.le.refl _) ?_
      refine dT 2 rfl rfl rfl (by kernel_rfl) (fun _ _ _ h => h) (y_fa0 F26_3 rfl) (.skip (.keep (.keep (.keep .nil)))) (Fz.le.refl _) ?_
      refine dT 3 rfl rfl rfl (by kernel_rfl) (fun _ _ _ h => h) (y_ld (Says.own .head) Tryd.isAgg23 rfl (Nat.zero_add _).symm rfl) (.skip (.keep (.keep (.keep .nil)))) (Fz.le.refl _) ?_
      refine dT 4 rfl rfl rfl (by kernel_rfl) (fun _ _ _ h => h) (y_ix2 (j := 1) Tryd.runUnderlying23 Tryd.sizeOf26 rfl rfl rfl rfl (by decide)) (.skip (.keep (.keep (.keep .nil)))) (Fz.le.refl _) ?_
      refine dT 5 rfl rfl rfl (by kernel_rfl) (fun _ _ _ h => h) (y_fa F26_3 rfl) (.skip (.keep (.keep (.keep .nil)))) (Fz.le.refl _) ?_
      refine dT 6 rfl rfl rfl (by kernel_rfl) (fun _ _ _ h => h) (y_ld (Says.own (.tail .head)) Tryd.isAgg23 rfl (Nat.zero_add _).symm rfl) (.skip (.keep (.keep (.keep .nil)))) (Fz.le.refl _) ?_
      refine dT 7 rfl rfl rfl (by kernel_rfl) (fun _ _ _ h => h) (y_mv rfl) (.skip (.keep (.keep (.keep .nil)))) (Fz.le.refl _) ?_
      refine dT 8 rfl rfl rfl (by kernel_rfl) (fun _ _ _ h => h) (y_nc rfl) (.skip (.keep (.keep (.keep .nil)))) (Fz.le.refl _) ?_
      refine dT 9 rfl rfl rfl (by kernel_rfl) (fun _ _ _ h => h) (y_fa F186_1 rfl) (.skip (.keep (.keep (.keep .nil)))) (Fz.le.refl _) ?_
      refine dT 10 rfl rfl rfl (by kernel_rfl) (fun _ _ _ h => h) (y_ld (j := 16) (Says.fz (hb.mono (hlu13.trans le_4))) Tryd.isAgg184 rfl rfl rfl) (.skip (.keep (.keep (.keep .nil)))) (Fz.le.refl _) ?_
      refine dT 11 rfl rfl rfl (by kernel_rfl) (fun _ _ _ h => h) (y_mv rfl) (.skip (.keep (.keep (.keep .nil)))) (Fz.le.refl _) ?_
      obtain ⟨beq_7, oeq_7, haq_7, hlq_7⟩ := ((h1.mono At_ShareFetchRequestTopicPartition.mono (hlu13.trans le_4))).rows.at_ (ne_nil_of_lt hk1)
      obtain ⟨ceq_7, hAq_7, hbq_7⟩ := hlq_7 k1 hk1
      refine dT 12 rfl rfl rfl (by kernel_rfl) (fun _ _ _ h => h) (y_ixk (j := k1) Tryd.runUnderlying184 Tryd.sizeOf242 rfl haq_7 rfl rfl hk1) (.skip (.keep (.keep (.keep .nil)))) (Fz.le.refl _) ?_
      refine dE 13 (by kernel_rfl) rfl ?_
      refine cl rfl rfl rfl (te_ShareFetchRequestTopicPartition hbq_7 (At_ShareFetchRequestTopicPartition.mono _ _ _ _ (Fz.le.refl _) hAq_7) ((hf.at 1).lTel (List.getElem_mem hk1))) rfl (fun v_ H1 L1 le_8 hR_ => ?_)
      obtain ⟨rfl, ct66, rfl, hT66⟩ := hR_
      refine dN (.skip (.keep (.keep (.keep .nil)))) le_8 ?_
      refine dE 14 (by kernel_rfl) rfl ?_
      refine bs' L23 rfl rfl rfl rfl (fun b_9 => ?_)
      refine dN (.skip (.skip (.keep (.keep (.keep .nil))))) le_8 ?_
      refine dE 15 (by kernel_rfl) rfl ?_
      have hmk : ml1 = k1 := by have h1 := congrArg List.length pk12; rw [List.length_map, List.length_map, List.length_take] at h1; omega
      have hmb := (hf.at 1).lTl
      refine ap (k := 1) (news := f5 ((ct66, tl_ShareFetchRequestTopicPartition (lT (T.at 1))[k1]) : EE)) Tryd.underlying23 I26 rfl rfl pk10 (fun _ => (.tail .head)) (src_says Tryd.underlying23 rfl (fun _ => Says.own .head) (f5_one _)) (by omega) (by unfold maxLen; omega) rfl (fun a68 c68 N68 r68 z68 => ?_)
      rw [flatMap_snoc'] at r68
      refine dN (.skip (.skip (.keep (.keep (.keep .nil))))) le_8 ?_
      refine dE 16 (by kernel_rfl) rfl ?_
      refine ixk (j := 1) Tryd.runUnderlying23 Tryd.sizeOf26 rfl rfl rfl rfl (by decide) rfl ?_
      refine dN (.skip (.skip (.keep (.keep (.keep .nil))))) le_8 ?_
      refine dT 17 rfl rfl rfl (by kernel_rfl) (fun _ _ _ h => h) (y_fa F26_3 rfl) (.skip (.skip (.keep (.keep (.keep .nil))))) le_8 ?_
      refine dE 18 (by kernel_rfl) rfl ?_
      refine st Tryd.sizeOf23 rfl rfl rfl rfl (.tail (.tail (.tail .head))) ?_
      refine dNk (by kernel_rfl) ?_
      refine dD (by kernel_rfl) ?_
      refine Nb ?_
      refine drN .head ?_
      refine fun a_ w_ hA hw => ⟨_, _, _, hA.sub ?_, (le_4.trans le_8), hw, _, rfl, a68, (ml1 + 1), c68, (es1 ++ [((ct66, tl_ShareFetchRequestTopicPartition (lT (T.at 1))[k1]) : EE)]), N68, rfl, rfl, r68, (by simp; omega), (map_take_snoc (g := tl_ShareFetchRequestTopicPartition) hk1 pk12), (fun p hp => (mem_snoc hp).elim (fun h => (pk13 p h).mono le_8) (fun h => h ▸ hT66))⟩
      exact (.cons rfl (.cons rfl (.cons rfl (.cons rfl (.cons rfl (.nil _))))))
    · skip
      refine st Tryd.sizeOf4 rfl rfl rfl rfl .head ?_
      refine dN .nil (Fz.le.refl _) ?_
      refine dE 1 (by kernel_rfl) rfl ?_
      refine st Tryd.sizeOf4 rfl rfl rfl rfl .head ?_
      refine dN .nil (Fz.le.refl _) ?_
      refine dE 3 (by kernel_rfl) rfl ?_
      refine ld (Says.own .head) Tryd.isAgg4 rfl (Nat.zero_add _).symm rfl rfl ?_
      refine dN .nil (Fz.le.refl _) ?_
      refine dD (by kernel_rfl) ?_
      refine drN .head ?_
      refine Nt ?_
      refine cT rfl ?_
      refine sq ?_
      refine rgD 17 (.skip (.keep (.keep (.keep .nil)))) mixed ?_
      refine dT 0 rfl rfl rfl (by kernel_rfl) (fun _ _ _ h => h) (y_fa0 F26_3 rfl) (.skip (.keep (.keep (.keep .nil)))) (Fz.le.refl _) ?_
      refine dT 1 rfl rfl rfl (by kernel_rfl) (fun _ _ _ h => h) (y_ld (Says.own .head) Tryd.isAgg23 rfl (Nat.zero_add _).symm rfl) (.skip (.keep (.keep (.keep .nil)))) (Fz.le.refl _) ?_
      refine dT 2 rfl rfl rfl (by kernel_rfl) (fun _ _ _ h => h) (y_ix2 (j := 1) Tryd.runUnderlying23 Tryd.sizeOf26 rfl rfl rfl rfl (by decide)) (.skip (.keep (.keep (.keep .nil)))) (Fz.le.refl _) ?_
      refine dT 3 rfl rfl rfl (by kernel_rfl) (fun _ _ _ h => h) (y_fa F26_3 rfl) (.skip (.keep (.keep (.keep .nil)))) (Fz.le.refl _) ?_
      refine dT 4 rfl rfl rfl (by kernel_rfl) (fun _ _ _ h => h) (y_ld (Says.own (.tail .head)) Tryd.isAgg23 rfl (Nat.zero_add _).symm rfl) (.skip (.keep (.keep (.keep .nil)))) (Fz.le.refl _) ?_
      refine dT 5 rfl rfl rfl (by kernel_rfl) (fun _ _ _ h => h) (y_mv rfl) (.skip (.keep (.keep (.keep .nil)))) (Fz.le.refl _) ?_
      refine dT 6 rfl rfl rfl (by kernel_rfl) (fun _ _ _ h => h) (y_nc rfl) (.skip (.keep (.keep (.keep .nil)))) (Fz.le.refl _) ?_
      refine dT 7 rfl rfl rfl (by kernel_rfl) (fun _ _ _ h => h) (y_fa F186_1 rfl) (.skip (.keep (.keep (.keep .nil)))) (Fz.le.refl _) ?_
      refine dT 8 rfl rfl rfl (by kernel_rfl) (fun _ _ _ h => h) (y_ld (j := 16) (Says.fz (hb.mono (hlu13.trans le_4))) Tryd.isAgg184 rfl rfl rfl) (.skip (.keep (.keep (.keep .nil)))) (Fz.le.refl _) ?_
      refine dT 9 rfl rfl rfl (by kernel_rfl) (fun _ _ _ h => h) (y_mv rfl) (.skip (.keep (.keep (.keep .nil)))) (Fz.le.refl _) ?_
      obtain ⟨beq_10, oeq_10, haq_10, hlq_10⟩ := ((h1.mono At_ShareFetchRequestTopicPartition.mono (hlu13.trans le_4))).rows.at_ (ne_nil_of_lt hk1)
      obtain ⟨ceq_10, hAq_10, hbq_10⟩ := hlq_10 k1 hk1
      refine dT 10 rfl rfl rfl (by kernel_rfl) (fun _ _ _ h => h) (y_ixk (j := k1) Tryd.runUnderlying184 Tryd.sizeOf242 rfl haq_10 rfl rfl hk1) (.skip (.keep (.keep (.keep .nil)))) (Fz.le.refl _) ?_
      refine dT 12 rfl rfl rfl (by kernel_rfl) (fun _ _ _ h => h) (y_ls Tryd.runUnderlying23 rfl) (.skip (.keep (.keep (.keep .nil)))) (Fz.le.refl _) ?_
      refine dE2 11 13 (by kernel_rfl) rfl rfl ?_ ?_
      · skip
        refine cl rfl rfl rfl (te_ShareFetchRequestTopicPartition hbq_10 (At_ShareFetchRequestTopicPartition.mono _ _ _ _ (Fz.le.refl _) hAq_10) ((hf.at 1).lTel (List.getElem_mem hk1))) rfl (fun v_ H1 L1 le_11 hR_ => ?_)
        obtain ⟨rfl, ct46, rfl, hT46⟩ := hR_
        refine dN (.skip (.keep (.keep (.keep .nil)))) le_11 ?_
        refine dE 13 (by kernel_rfl) rfl ?_
        refine bs' L23 rfl rfl rfl rfl (fun b_12 => ?_)
        refine dN (.skip (.skip (.keep (.keep (.keep .nil))))) le_11 ?_
        refine dE 14 (by kernel_rfl) rfl ?_
        have hmk : ml1 = k1 := by have h1 := congrArg List.length pk12; rw [List.length_map, List.length_map, List.length_take] at h1; omega
        have hmb := (hf.at 1).lTl
        refine ap (k := 1) (news := f5 ((TC.none, Tr.none) : EE)) Tryd.underlying23 I26 rfl rfl pk10 (fun _ => (.tail .head)) (src_says Tryd.underlying23 rfl (fun _ => Says.own .head) (f5_one _)) (by omega) (by unfold maxLen; omega) rfl (fun a49 c49 N49 r49 z49 => ?_)
        refine dN (.skip (.skip (.keep (.keep (.keep .nil))))) le_11 ?_
        refine dE 15 (by kernel_rfl) rfl ?_
        refine ixk (j := 1) Tryd.runUnderlying23 Tryd.sizeOf26 rfl rfl rfl rfl (by decide) rfl ?_
        refine dN (.skip (.skip (.keep (.keep (.keep .nil))))) le_11 ?_
        refine dT 16 rfl rfl rfl (by kernel_rfl) (fun _ _ _ h => h) (y_fa F26_3 rfl) (.skip (.skip (.keep (.keep (.keep .nil))))) le_11 ?_
        refine dE 17 (by kernel_rfl) rfl ?_
        refine st Tryd.sizeOf23 rfl rfl rfl rfl (.tail (.tail (.tail .head))) ?_
        refine dNk (by kernel_rfl) ?_
        refine dD (by kernel_rfl) ?_
        refine Nt ?_
        refine rg ?_
        obtain ⟨gg49, hgg49⟩ := r49.addr (by omega)
        refine ixk (j := ml1) Tryd.runUnderlying23 Tryd.sizeOf26 rfl hgg49 rfl rfl (by omega) rfl ?_
        refine sR (ds := f5 ((ct46, tl_ShareFetchRequestTopicPartition (lT (T.at 1))[k1]) : EE)) r49 hgg49 (fun _ => (.tail .head)) Tryd.sizeOf26 rfl rfl rfl rfl (by omega) (fun N49b r49b => ?_)
        rw [row_put (k := 5) (m := ml1) (A := es1.flatMap f5) (by rw [flatMap_len f5 5 f5_len, pk11]) rfl, flatMap_snoc'] at r49b
        refine nN ?_
        refine Nb ?_
        refine drN .head ?_
        refine fun a_ w_ hA hw => ⟨_, _, _, hA.sub ?_, (le_4.trans le_11), hw, _, rfl, a49, (ml1 + 1), c49, (es1 ++ [((ct46, tl_ShareFetchRequestTopicPartition (lT (T.at 1))[k1]) : EE)]), N49b, rfl, rfl, r49b, (by simp; omega), (map_take_snoc (g := tl_ShareFetchRequestTopicPartition) hk1 pk12), (fun p hp => (mem_snoc hp).elim (fun h => (pk13 p h).mono le_11) (fun h => h ▸ hT46))⟩
        exact (.cons rfl (.cons rfl (.cons rfl (.cons rfl (.cons rfl (.nil _))))))
      · skip
        refine bs' L23 rfl rfl rfl rfl (fun b_13 => ?_)
        refine dN (.skip (.skip (.keep (.keep (.keep .nil))))) (Fz.le.refl _) ?_
        refine dE 11 (by kernel_rfl) rfl ?_
        refine cl rfl rfl rfl (te_ShareFetchRequestTopicPartition hbq_10 (At_ShareFetchRequestTopicPartition.mono _ _ _ _ (Fz.le.refl _) hAq_10) ((hf.at 1).lTel (List.getElem_mem hk1))) rfl (fun v_ H1 L1 le_14 hR_ => ?_)
        obtain ⟨rfl, ct46, rfl, hT46⟩ := hR_
        refine dN (.skip (.skip (.keep (.keep (.keep .nil))))) le_14 ?_
        refine dE 14 (by kernel_rfl) rfl ?_
        have hmk : ml1 = k1 := by have h1 := congrArg List.length pk12; rw [List.length_map, List.length_map, List.length_take] at h1; omega
        have hmb := (hf.at 1).lTl
        refine ap (k := 1) (news := f5 ((TC.none, Tr.none) : EE)) Tryd.underlying23 I26 rfl rfl pk10 (fun _ => (.tail .head)) (src_says Tryd.underlying23 rfl (fun _ => Says.own .head) (f5_one _)) (by omega) (by unfold maxLen; omega) rfl (fun a49 c49 N49 r49 z49 => ?_)
        refine dN (.skip (.skip (.keep (.keep (.keep .nil))))) le_14 ?_
        refine dE 15 (by kernel_rfl) rfl ?_
        refine ixk (j := 1) Tryd.runUnderlying23 Tryd.sizeOf26 rfl rfl rfl rfl (by decide) rfl ?_
        refine dN (.skip (.skip (.keep (.keep (.keep .nil))))) le_14 ?_
        refine dT 16 rfl rfl rfl (by kernel_rfl) (fun _ _ _ h => h) (y_fa F26_3 rfl) (.skip (.skip (.keep (.keep (.keep .nil))))) le_14 ?_
        refine dE 17 (by kernel_rfl) rfl ?_
        refine st Tryd.sizeOf23 rfl rfl rfl rfl (.tail (.tail (.tail .head))) ?_
        refine dNk (by kernel_rfl) ?_
        refine dD (by kernel_rfl) ?_
        refine Nt ?_
        refine rg ?_
        obtain ⟨gg49, hgg49⟩ := r49.addr (by omega)
        refine ixk (j := ml1) Tryd.runUnderlying23 Tryd.sizeOf26 rfl hgg49 rfl rfl (by omega) rfl ?_
        refine sR (ds := f5 ((ct46, tl_ShareFetchRequestTopicPartition (lT (T.at 1))[k1]) : EE)) r49 hgg49 (fun _ => (.tail .head)) Tryd.sizeOf26 rfl rfl rfl rfl (by omega) (fun N49b r49b => ?_)
        rw [row_put (k := 5) (m := ml1) (A := es1.flatMap f5) (by rw [flatMap_len f5 5 f5_len, pk11]) rfl, flatMap_snoc'] at r49b
        refine nN ?_
        refine Nb ?_
        refine drN .head ?_
        refine fun a_ w_ hA hw => ⟨_, _, _, hA.sub ?_, (le_4.trans le_14), hw, _, rfl, a49, (ml1 + 1), c49, (es1 ++ [((ct46, tl_ShareFetchRequestTopicPartition (lT (T.at 1))[k1]) : EE)]), N49b, rfl, rfl, r49b, (by simp; omega), (map_take_snoc (g := tl_ShareFetchRequestTopicPartition) hk1 pk12), (fun p hp => (mem_snoc hp).elim (fun h => (pk13 p h).mono le_14) (fun h => h ▸ hT46))⟩
        exact (.cons rfl (.cons rfl (.cons rfl (.cons rfl (.cons rfl (.nil _))))))
  · skip
    obtain ⟨al1, ml1, cl1, es1, Nl1, rfl, rfl, pk10, pk11, pk12, pk13⟩ := hI
    refine toWp ?_
    have hes1 : es1.map (·.2) = (lT (T.at 1)).map tl_ShareFetchRequestTopicPartition := by rw [pk12, List.take_length]
    have hm1 : ml1 = ((lT (T.at 1)).map tl_ShareFetchRequestTopicPartition).length := by rw [← hes1, List.length_map]; exact pk11
    refine frW pk10 .head (fun Hl1 hll1 hzl1 => ?_)
    have ht1 := TreesAt.row hzl1 pk11 pk10.le.1 (by have h1 := congrArg List.length hes1; rw [List.length_map, List.length_map] at h1; unfold B47; omega) (fun p hp => (pk13 p hp).mono hll1)
    rw [hes1] at ht1
    subst hm1
    refine sr ?_
    refine mv rfl rfl ?_
    refine nc rfl rfl ?_
    refine fa F186_2 rfl rfl ?_
    refine mkf rfl rfl ?_
    obtain ⟨kvs, hM, hlen, hel⟩ := (h2.mono (hlu13.trans (le_5.trans hll1)))
    have hfu := hf.u
    refine cl rfl rfl rfl (t_each (j := 17) (I := fun i H1 Y => TgI 61 b_3 26 (.int .i64 0) (.slice none 0 0) (.bool false) (_) T.u i H1 Y) (hb.mono (hlu13.trans (le_5.trans hll1))) rfl hM (by omega) (fun i H1 H2 Y hle h => h.mono hle) TgI.start (fun i k v H1 Y L1 hi hle hI => ?_)) rfl (fun v_ H1 L1 le_16 hR_ => ?_)
    · obtain ⟨s, h1, ⟨va, vc, rfl, hx⟩, h2, h3⟩ := hel i k v hi
      have hik := sortKv_lt hi
      exact TgI.step (fun {_ _ _ _ _ _ _ _ _ _ _ _ _ _ _ _} => tc_229) hf.v (by omega) h1 (hx.mono hle) h2 h3 hI
    rw [hlen] at hR_
    obtain ⟨_, rfl, aU, cU, NU, esU, rfl, hrU, heU, hgU⟩ := hR_
    refine splL ?_
    rw [List.take_length] at heU
    refine frL hrU (.tail .head) (fun HU hleU hzU => ?_)
    have hU := (TagsAt.told hzU hrU heU hfu (fun p hp => (hgU p hp).mono hleU)).1
    refine nl ?_
    refine sr ?_
    refine fa0 F26_4 rfl rfl ?_
    refine ld (Says.own .head) Tryd.isAgg24 rfl (Nat.zero_add _).symm rfl rfl ?_
    refine cl rfl rfl rfl (k_sorted hU (h2.mono (hlu13.trans (le_5.trans (hll1.trans (le_16.trans hleU))))).rise) rfl (fun v_ H1 L1 hle_ hR_ => ?_)
    obtain ⟨rfl, rfl⟩ := hR_
    refine nl ?_
    refine sr ?_
    refine la (Says.own .head) Tryd.isAgg26 Tryd.sizeOf26 rfl (Nat.zero_add _).symm rfl rfl ?_
    refine sa Tryd.sizeOf26 rfl rfl rfl rfl rfl (.tail (.tail .head)) ?_
    refine nl ?_
    refine drW .head ?_
    refine frW (Row.whole (e := 26) (size := 5) (m := 2) (ds := [.int .i64 0, .slice a13 16 c13, .bool false, .slice none 0 0, .slice none 0 0, .int .i64 0, .slice none 0 0, .bool a1.isNone, .slice al1 ((lT (T.at 1)).map tl_ShareFetchRequestTopicPartition).length cl1, .slice none 0 0]) rfl (by unfold maxLen; omega)) .head (fun H9 hle9 hz9 => ?_)
    have hrb : H9.at b_2 0 [.int .i64 0, .slice a13 16 c13, .bool false, .slice none 0 0, .slice none 0 0, .int .i64 0, .slice none 0 0, .bool a1.isNone, .slice al1 ((lT (T.at 1)).map tl_ShareFetchRequestTopicPartition).length cl1, .slice none 0 0] := by
      rcases hz9 with ⟨h, _⟩ | ⟨g, h, h2⟩
      · cases h
      · cases h; exact h2
    rw [(h1).nul] at hrb
    have hq9_0 := pad16_len (T.at 0).s
    have hrb2 : H9.at b_2 0 (([((⟨a13, c13, none, 0, none, 0⟩ : TC), (Tr.mk 0 (pad16 (T.at 0).s) false [] [] : Tr)), ((⟨none, 0, al1, cl1, none, 0⟩ : TC), (Tr.mk 0 [] (T.at 1).nul ((lT (T.at 1)).map tl_ShareFetchRequestTopicPartition) [] : Tr))] : List EE).flatMap fun p => p.1.cells p.2) := by
      simp only [List.flatMap_cons, List.flatMap_nil, TC.cells, Tr.n, Tr.s, Tr.nul, Tr.l, Tr.u, TC.none, pad16_len]
      exact hrb
    have hl9 : TreesAt H9 (some ⟨b_2, 0, none⟩) 2 [(.mk 0 (pad16 (T.at 0).s) false [] []), (.mk 0 [] (T.at 1).nul ((lT (T.at 1)).map tl_ShareFetchRequestTopicPartition) [])] := by
      refine TreesAt.row (es := [((⟨a13, c13, none, 0, none, 0⟩ : TC), (Tr.mk 0 (pad16 (T.at 0).s) false [] [] : Tr)), ((⟨none, 0, al1, cl1, none, 0⟩ : TC), (Tr.mk 0 [] (T.at 1).nul ((lT (T.at 1)).map tl_ShareFetchRequestTopicPartition) [] : Tr))]) (.inr ⟨_, rfl, hrb2⟩) rfl (Nat.le_refl _) (Nat.le_of_ble_eq_true rfl) ?_
      intro p hp
      simp only [List.mem_cons, List.not_mem_nil, or_false] at hp
      rcases hp with rfl | rfl
      · exact (.of (hb13.mono (le_5.trans (hll1.trans (le_16.trans (hleU.trans hle9))))) (.nil _) (.nil _))
      · exact (.of (.nil _) (ht1.mono (le_16.trans (hleU.trans hle9))) (.nil _))
    exact rC rfl Tryd.isAgg26 Tryd.sizeOf26 rfl .head rfl (hlu13.trans (le_5.trans (hll1.trans (le_16.trans (hleU.trans hle9))))) (fun _ _ h => h) ⟨rfl, ⟨none, 0, some ⟨b_2, 0, none⟩, 2, aU, cU⟩, rfl, .of (.nil _) hl9 (hU.mono hle9)⟩
def tl_ShareFetchRequestForgottenTopicsData (T : Tr) : Tr := .mk 0 [] false [(.mk 0 (pad16 (T.at 0).s) false [] []), (.mk 0 [] (T.at 1).nul ((lT (T.at 1)).map (fun y : Tr => (Tr.mk (IntKind.i32.wrap y.n) [] false [] [] : Tr))) [])] T.u
theorem te_ShareFetchRequestForgottenTopicsData {H : Fz} {L : Own} {b o : Nat} {cs : List Value} {T : Tr} (hb : H.at b o cs) (hA : At_ShareFetchRequestForgottenTopicsData H T cs) (hf : Fits T) :
    Fn Tryd.prog 164 [.pointer (some ⟨b, o, none⟩)] H L (fun v H' L' => L = L' ∧ ∃ c : TC, v = .agg (c.cells (tl_ShareFetchRequestForgottenTopicsData T)).toArray ∧ TreeAt H' c (tl_ShareFetchRequestForgottenTopicsData T)) := by
  obtain ⟨a1, c1, mt, rfl, h1, h2⟩ := hA
  refine Fn.mk Tryd.call164 Tryd.func164 rfl Tryd.ntmps164 rfl ?_
  refine sr ?_
  refine al Tryd.zeroValue26 rfl rfl (fun b_1 => ?_)
  refine nl ?_
  refine sr ?_
  refine mkC (m := 2) (zs := [.int .i64 0, .slice none 0 0, .bool false, .slice none 0 0, .slice none 0 0]) Tryd.underlying23 I26 rfl rfl rfl rfl rfl rfl (by decide) (by unfold maxLen; omega) rfl (fun b_2 => ?_)
  refine bd' S26 rfl rfl rfl ?_
  refine al Tryd.zeroValue26 rfl rfl (fun b_3 => ?_)
  refine sa Tryd.sizeOf26 rfl rfl rfl rfl rfl .head ?_
  refine nl ?_
  refine sq ?_
  refine rgD 9 (.keep (.keep (.keep .nil))) mixed ?_
  refine dT 0 rfl rfl rfl (by kernel_rfl) (fun _ _ _ h => h) (y_fa0 F26_3 rfl) (.keep (.keep (.keep .nil))) (Fz.le.refl _) ?_
  refine dT 1 rfl rfl rfl (by kernel_rfl) (fun _ _ _ h => h) (y_ld (Says.own .head) Tryd.isAgg23 rfl (Nat.zero_add _).symm rfl) (.keep (.keep (.keep .nil))) (Fz.le.refl _) ?_
  refine dT 2 rfl rfl rfl (by kernel_rfl) (fun _ _ _ h => h) (y_mv rfl) (.keep (.keep (.keep .nil))) (Fz.le.refl _) ?_
  refine dT 3 rfl rfl rfl (by kernel_rfl) (fun _ _ _ h => h) (y_nc rfl) (.keep (.keep (.keep .nil))) (Fz.le.refl _) ?_
  refine dT 4 rfl rfl rfl (by kernel_rfl) (fun _ _ _ h => h) (y_fa F191_0 rfl) (.keep (.keep (.keep .nil))) (Fz.le.refl _) ?_
  refine dT 5 rfl rfl rfl (by kernel_rfl) (fun _ _ _ h => h) (y_slA Tryd.runUnderlying143 Tryd.sizeOf5 rfl) (.keep (.keep (.keep .nil))) (Fz.le.refl _) ?_
  refine dE 6 (by kernel_rfl) rfl ?_
  have hq13 := pad16_len (T.at 0).s
  refine apn (k := 16) (news := bytesOf (pad16 (T.at 0).s)) Tryd.underlying22 I5 rfl rfl (src_says (m := 16) (size := 1) Tryd.underlying22 (by rw [bytesOf_length, hq13]) (fun _ => Says.fz (by rw [← u16_eq]; exact (hb.part 0 16))) (bytesOf_one _)) (by omega) (by unfold maxLen; omega) rfl (fun a13 c13 N13 r13 => ?_)
  refine frL r13 .head (fun Hu13 hlu13 hz13 => ?_)
  have hb13 := BytesAt.row hz13 r13 (by rw [hq13]; unfold B47; omega)
  refine dN (.keep (.keep (.keep .nil))) hlu13 ?_
  refine dT 7 rfl rfl rfl (by kernel_rfl) (fun _ _ _ h => h) (y_bd S26 rfl rfl) (.keep (.keep (.keep .nil))) hlu13 ?_
  refine dT 8 rfl rfl rfl (by kernel_rfl) (fun _ _ _ h => h) (y_ix2 (j := 0) Tryd.runUnderlying23 Tryd.sizeOf26 rfl rfl rfl rfl (by decide)) (.keep (.keep (.keep .nil))) hlu13 ?_
  refine dE 9 (by kernel_rfl) rfl ?_
  refine sa Tryd.sizeOf26 rfl rfl rfl rfl rfl (.tail .head) ?_
  refine dNk (by kernel_rfl) ?_
  refine dD (by kernel_rfl) ?_
  refine Nt ?_
  refine sq ?_
  refine rgD 9 (.keep (.keep (.keep .nil))) mixed ?_
  refine dT 0 rfl rfl rfl (by kernel_rfl) (fun _ _ _ h => h) (y_fa0 F26_3 rfl) (.keep (.keep (.keep .nil))) (Fz.le.refl _) ?_
  refine dT 1 rfl rfl rfl (by kernel_rfl) (fun _ _ _ h => h) (y_ld (Says.own .head) Tryd.isAgg23 rfl (Nat.zero_add _).symm rfl) (.keep (.keep (.keep .nil))) (Fz.le.refl _) ?_
  refine dT 2 rfl rfl rfl (by kernel_rfl) (fun _ _ _ h => h) (y_mv rfl) (.keep (.keep (.keep .nil))) (Fz.le.refl _) ?_
  refine dT 3 rfl rfl rfl (by kernel_rfl) (fun _ _ _ h => h) (y_nc rfl) (.keep (.keep (.keep .nil))) (Fz.le.refl _) ?_
  refine dT 4 rfl rfl rfl (by kernel_rfl) (fun _ _ _ h => h) (y_fa F191_1 rfl) (.keep (.keep (.keep .nil))) (Fz.le.refl _) ?_
  refine dT 5 rfl rfl rfl (by kernel_rfl) (fun _ _ _ h => h) (y_ld (j := 16) (Says.fz (hb.mono hlu13)) Tryd.isAgg189 rfl rfl rfl) (.keep (.keep (.keep .nil))) (Fz.le.refl _) ?_
  refine dT 6 rfl rfl rfl (by kernel_rfl) (fun _ _ _ h => h) (y_esn Tryd.underlying189 rfl) (.keep (.keep (.keep .nil))) (Fz.le.refl _) ?_
  refine dE 7 (by kernel_rfl) rfl ?_
  refine ixk (j := 1) Tryd.runUnderlying23 Tryd.sizeOf26 rfl rfl rfl rfl (by decide) rfl ?_
  refine dN (.keep (.keep (.keep .nil))) (Fz.le.refl _) ?_
  refine dT 8 rfl rfl rfl (by kernel_rfl) (fun _ _ _ h => h) (y_fa F26_2 rfl) (.keep (.keep (.keep .nil))) (Fz.le.refl _) ?_
  refine dE 9 (by kernel_rfl) rfl ?_
  refine st Tryd.sizeOf4 rfl rfl rfl rfl (.tail .head) ?_
  refine dNk (by kernel_rfl) ?_
  refine dD (by kernel_rfl) ?_
  refine Nt ?_
  refine sq ?_
  refine sr ?_
  refine mv rfl rfl ?_
  refine nc rfl rfl ?_
  refine fa F191_1 rfl rfl ?_
  refine ld (Says.fz (hb.mono hlu13)) Tryd.isAgg189 rfl rfl rfl rfl ?_
  refine ls Tryd.runUnderlying189 rfl rfl ?_
  refine mv rfl rfl ?_
  refine nl ?_
  have hlm1 := (hf.at 1).lTl
  refine nulC2 ?_
  refine fr ((lT (T.at 1)).length) (fun k1 l' H' L' => ∃ (al1 : Option Addr), ∃ (ml1 : Nat), ∃ (cl1 : Nat), ∃ (es1 : List EE), ∃ (Nl1 : Chunk), [(0, .pointer (some ⟨b, o, none⟩)), (2, .pointer (some ⟨b_1, 0, none⟩)), (3, .pointer (some ⟨b_3, 0, none⟩)), (29, .int .i64 ((lT (T.at 1)).length : Int))] = l' ∧ Nl1 :: [(b_3, .cells [.int .i64 0, .slice none 0 0, .bool false, _, .slice none 0 0].toArray 26 (0, 0))] :: [(b_2, .cells [.int .i64 0, .slice a13 16 c13, .bool false, .slice none 0 0, .slice none 0 0, .int .i64 0, .slice none 0 0, .bool a1.isNone, .slice al1 ml1 cl1, .slice none 0 0].toArray 26 (0, 0))] :: [(b_1, .cells [.int .i64 0, .slice none 0 0, .bool false, .slice none 0 0, .slice none 0 0].toArray 26 (0, 0))] :: L = L' ∧ Row 26 5 al1 ml1 cl1 (es1.flatMap f5) Nl1 ∧ ml1 = es1.length ∧ es1.map (·.2) = ((lT (T.at 1)).take k1).map (fun y : Tr => (Tr.mk (IntKind.i32.wrap y.n) [] false [] [] : Tr)) ∧ (∀ p : EE, p ∈ es1 → TreeAt H' p.1 p.2)) [(0, .pointer (some ⟨b, o, none⟩)), (2, .pointer (some ⟨b_1, 0, none⟩)), (3, .pointer (some ⟨b_3, 0, none⟩)), (29, .int .i64 ((lT (T.at 1)).length : Int))] (fun k1 l' H' L' h => ?_) (by omega) rfl (.cons rfl (.cons rfl (.cons rfl (.cons rfl (.nil _))))) ⟨none, 0, 0, [], [], rfl, rfl, (Row.nil _ _), rfl, (by simp), (fun p hp => by cases hp)⟩ rfl rfl rfl rfl rfl (fun k1 l' H' L' hk1 le_4 hI => ?_) (fun l' H' L' le_5 hI => ?_)
  · obtain ⟨al1, ml1, cl1, es1, Nl1, rfl, _⟩ := h; exact ⟨rfl, rfl, rfl, rfl⟩
  · skip
    obtain ⟨al1, ml1, cl1, es1, Nl1, rfl, rfl, pk10, pk11, pk12, pk13⟩ := hI
    refine sr ?_
    refine mv rfl rfl ?_
    refine asg rfl rfl ?_
    refine nl ?_
    refine sq ?_
    refine rgD 4 .nil mixed ?_
    refine dE 0 (by kernel_rfl) rfl ?_
    refine al Tryd.zeroValue4 rfl rfl (fun b_6 => ?_)
    refine dN .nil (Fz.le.refl _) ?_
    refine dE2 1 2 (by kernel_rfl) rfl rfl ?_ ?_
    · skip
      refine st Tryd.sizeOf4 rfl rfl rfl rfl .head ?_
      refine dN .nil (Fz.le.refl _) ?_
      refine dE 2 (by kernel_rfl) rfl ?_
      refine st Tryd.sizeOf4 rfl rfl rfl rfl .head ?_
      refine dN .nil (Fz.le.refl _) ?_
      refine dE 3 (by kernel_rfl) rfl ?_
      refine ld (Says.own .head) Tryd.isAgg4 rfl (Nat.zero_add _).symm rfl rfl ?_
      refine dN .nil (Fz.le.refl _) ?_
      refine dD (by kernel_rfl) ?_
      refine drN .head ?_
      refine Nt ?_
      refine cF rfl ?_
      refine rgD 20 (.skip (.keep (.keep (.keep .nil)))) mixed ?_
      refine dT 0 rfl rfl rfl (by kernel_rfl) (fun _ _ _ h => h) (y_fa0 F26_3 rfl) (.skip (.keep (.keep (.keep .nil)))) (Fz.le.refl _) ?_
      refine dT 1 rfl rfl rfl (by kernel_rfl) (fun _ _ _ h => h) (y_ld (Says.own .head) Tryd.isAgg23 rfl (Nat.zero_add _).symm rfl) (.skip (.keep (.keep (.keep .nil)))) (Fz.le.refl _) ?_
      refine dT 2 rfl rfl rfl (by kernel_rfl) (fun _ _ _ h => h) (y_fa0 F26_3 rfl) (.skip (.keep (.keep (.keep .nil)))) (Fz.le.refl _) ?_
      refine dT 3 rfl rfl rfl (by kernel_rfl) (fun _ _ _ h => h) (y_ld (Says.own .head) Tryd.isAgg23 rfl (Nat.zero_add _).symm rfl) (.skip (.keep (.keep (.keep .nil)))) (Fz.le.refl _) ?_
      refine dT 4 rfl rfl rfl (by kernel_rfl) (fun _ _ _ h => h) (y_ix2 (j := 1) Tryd.runUnderlying23 Tryd.sizeOf26 rfl rfl rfl rfl (by decide)) (.skip (.keep (.keep (.keep .nil)))) (Fz.le.refl _) ?_
      refine dT 5 rfl rfl rfl (by kernel_rfl) (fun _ _ _ h => h) (y_fa F26_3 rfl) (.skip (.keep (.keep (.keep .nil)))) (Fz.le.refl _) ?_
      refine dT 6 rfl rfl rfl (by kernel_rfl) (fun _ _ _ h => h) (y_ld (Says.own (.tail .head)) Tryd.isAgg23 rfl (Nat.zero_add _).symm rfl) (.skip (.keep (.keep (.keep .nil)))) (Fz.le.refl _) ?_
      refine dT 7 rfl rfl rfl (by kernel_rfl) (fun _ _ _ h => h) (y_mv rfl) (.skip (.keep (.keep (.keep .nil)))) (Fz.le.refl _) ?_
      refine dT 8 rfl rfl rfl (by kernel_rfl) (fun _ _ _ h => h) (y_nc rfl) (.skip (.keep (.keep (.keep .nil)))) (Fz.le.refl _) ?_
      refine dT 9 rfl rfl rfl (by kernel_rfl) (fun _ _ _ h => h) (y_fa F191_1 rfl) (.skip (.keep (.keep (.keep .nil)))) (Fz.le.refl _) ?_
      refine dT 10 rfl rfl rfl (by kernel_rfl) (fun _ _ _ h => h) (y_ld (j := 16) (Says.fz (hb.mono (hlu13.trans le_4))) Tryd.isAgg189 rfl rfl rfl) (.skip (.keep (.keep (.keep .nil)))) (Fz.le.refl _) ?_
      refine dT 11 rfl rfl rfl (by kernel_rfl) (fun _ _ _ h => h) (y_mv rfl) (.skip (.keep (.keep (.keep .nil)))) (Fz.le.refl _) ?_
      obtain ⟨beq_7, oeq_7, haq_7, hlq_7⟩ := ((h1.mono RI32.mono (hlu13.trans le_4))).rows.at_ (ne_nil_of_lt hk1)
      obtain ⟨ceq_7, hAq_7, hbq_7⟩ := hlq_7 k1 hk1
      obtain rfl : ceq_7 = [.int .i32 (IntKind.i32.wrap ((lT (T.at 1))[k1]).n)] := hAq_7
      refine dT 12 rfl rfl rfl (by kernel_rfl) (fun _ _ _ h => h) (y_ixk (j := k1) Tryd.runUnderlying189 Tryd.sizeOf21 rfl haq_7 rfl rfl hk1) (.skip (.keep (.keep (.keep .nil)))) (Fz.le.refl _) ?_
      refine dT 13 rfl rfl rfl (by kernel_rfl) (fun _ _ _ h => h) (y_ld (Says.fz hbq_7) Tryd.isAgg21 rfl (Nat.add_zero _).symm rfl) (.skip (.keep (.keep (.keep .nil)))) (Fz.le.refl _) ?_
      refine dT 14 rfl rfl rfl (by kernel_rfl) (fun _ _ _ h => h) (y_cv Tryd.runUnderlying21 Tryd.runUnderlying2 rfl (i32_64 _)) (.skip (.keep (.keep (.keep .nil)))) (Fz.le.refl _) ?_
      refine dT 15 rfl rfl rfl (by kernel_rfl) (fun _ _ _ h => h) (y_bd S26 rfl rfl) (.skip (.keep (.keep (.keep .nil)))) (Fz.le.refl _) ?_
      refine dE 16 (by kernel_rfl) rfl ?_
      refine bs' L23 rfl rfl rfl rfl (fun b_8 => ?_)
      refine dN (.skip (.skip (.keep (.keep (.keep .nil))))) (Fz.le.refl _) ?_
      refine dE 17 (by kernel_rfl) rfl ?_
      have hmk : ml1 = k1 := by have h1 := congrArg List.length pk12; rw [List.length_map, List.length_map, List.length_take] at h1; omega
      have hmb := (hf.at 1).lTl
      refine ap (k := 1) (news := f5 (((TC.none : TC), (Tr.mk (IntKind.i32.wrap ((lT (T.at 1))[k1]).n) [] false [] [] : Tr)) : EE)) Tryd.underlying23 I26 rfl rfl pk10 (fun _ => (.tail .head)) (src_says Tryd.underlying23 rfl (fun _ => Says.own .head) (f5_one _)) (by omega) (by unfold maxLen; omega) rfl (fun a72 c72 N72 r72 z72 => ?_)
      rw [flatMap_snoc'] at r72
      refine dN (.skip (.skip (.keep (.keep (.keep .nil))))) (Fz.le.refl _) ?_
      refine dE 18 (by kernel_rfl) rfl ?_
      refine ixk (j := 1) Tryd.runUnderlying23 Tryd.sizeOf26 rfl rfl rfl rfl (by decide) rfl ?_
      refine dN (.skip (.skip (.keep (.keep (.keep .nil))))) (Fz.le.refl _) ?_
      refine dT 19 rfl rfl rfl (by kernel_rfl) (fun _ _ _ h => h) (y_fa F26_3 rfl) (.skip (.skip (.keep (.keep (.keep .nil))))) (Fz.le.refl _) ?_
      refine dE 20 (by kernel_rfl) rfl ?_
      refine st Tryd.sizeOf23 rfl rfl rfl rfl (.tail (.tail (.tail .head))) ?_
      refine dNk (by kernel_rfl) ?_
      refine dD (by kernel_rfl) ?_
      refine Nb ?_
      refine drN .head ?_
      refine fun a_ w_ hA hw => ⟨_, _, _, hA.sub ?_, le_4, hw, _, rfl, a72, (ml1 + 1), c72, (es1 ++ [(((TC.none : TC), (Tr.mk (IntKind.i32.wrap ((lT (T.at 1))[k1]).n) [] false [] [] : Tr)) : EE)]), N72, rfl, rfl, r72, (by simp; omega), (map_take_snoc (g := (fun y : Tr => (Tr.mk (IntKind.i32.wrap y.n) [] false [] [] : Tr))) hk1 pk12), (fun p hp => (mem_snoc hp).elim (fun h => (pk13 p h).mono (Fz.le.refl _)) (fun h => h ▸ (.of (.nil _) (.nil _) (.nil _))))⟩
      exact (.cons rfl (.cons rfl (.cons rfl (.cons rfl (.cons rfl (.nil _))))))
    · skip
      refine st Tryd.sizeOf4 rfl rfl rfl rfl .head ?_
      refine dN .nil (Fz.le.refl _) ?_
      refine dE 1 (by kernel_rfl) rfl ?_
      refine st Tryd.sizeOf4 rfl rfl rfl rfl .head ?_
      refine dN .nil (Fz.le.refl _) ?_
      refine dE 3 (by kernel_rfl) rfl ?_
      refine ld (Says.own .head) Tryd.isAgg4 rfl (Nat.zero_add _).symm rfl rfl ?_
      refine dN .nil (Fz.le.refl _) ?_
      refine dD (by kernel_rfl) ?_
      refine drN .head ?_
      refine Nt ?_
      refine cT rfl ?_
      refine sq ?_
      refine rgD 19 (.skip (.keep (.keep (.keep .nil)))) mixed ?_
      refine dT 0 rfl rfl rfl (by kernel_rfl) (fun _ _ _ h => h) (y_fa0 F26_3 rfl) (.skip (.keep (.keep (.keep .nil)))) (Fz.le.refl _) ?_
      refine dT 1 rfl rfl rfl (by kernel_rfl) (fun _ _ _ h => h) (y_ld (Says.own .head) Tryd.isAgg23 rfl (Nat.zero_add _).symm rfl) (.skip (.keep (.keep (.keep .nil)))) (Fz.le.refl _) ?_
      refine dT 2 rfl rfl rfl (by kernel_rfl) (fun _ _ _ h => h) (y_ix2 (j := 1) Tryd.runUnderlying23 Tryd.sizeOf26 rfl rfl rfl rfl (by decide)) (.skip (.keep (.keep (.keep .nil)))) (Fz.le.refl _) ?_
      refine dT 3 rfl rfl rfl (by kernel_rfl) (fun _ _ _ h => h) (y_fa F26_3 rfl) (.skip (.keep (.keep (.keep .nil)))) (Fz.le.refl _) ?_
      refine dT 4 rfl rfl rfl (by kernel_rfl) (fun _ _ _ h => h) (y_ld (Says.own (.tail .head)) Tryd.isAgg23 rfl (Nat.zero_add _).symm rfl) (.skip (.keep (.keep (.keep .nil)))) (Fz.le.refl _) ?_
      refine dT 5 rfl rfl rfl (by kernel_rfl) (fun _ _ _ h => h) (y_mv rfl) (.skip (.keep (.keep (.keep .nil)))) (Fz.le.refl _) ?_
      refine dT 6 rfl rfl rfl (by kernel_rfl) (fun _ _ _ h => h) (y_nc rfl) (.skip (.keep (.keep (.keep .nil)))) (Fz.le.refl _) ?_
      refine dT 7 rfl rfl rfl (by kernel_rfl) (fun _ _ _ h => h) (y_fa F191_1 rfl) (.skip (.keep (.keep (.keep .nil)))) (Fz.le.refl _) ?_
      refine dT 8 rfl rfl rfl (by kernel_rfl) (fun _ _ _ h => h) (y_ld (j := 16) (Says.fz (hb.mono (hlu13.trans le_4))) Tryd.isAgg189 rfl rfl rfl) (.skip (.keep (.keep (.keep .nil)))) (Fz.le.refl _) ?_
      refine dT 9 rfl rfl rfl (by kernel_rfl) (fun _ _ _ h => h) (y_mv rfl) (.skip (.keep (.keep (.keep .nil)))) (Fz.le.refl _) ?_
      obtain ⟨beq_9, oeq_9, haq_9, hlq_9⟩ := ((h1.mono RI32.mono (hlu13.trans le_4))).rows.at_ (ne_nil_of_lt hk1)
      obtain ⟨ceq_9, hAq_9, hbq_9⟩ := hlq_9 k1 hk1
      obtain rfl : ceq_9 = [.int .i32 (IntKind.i32.wrap ((lT (T.at 1))[k1]).n)] := hAq_9
      refine dT 10 rfl rfl rfl (by kernel_rfl) (fun _ _ _ h => h) (y_ixk (j := k1) Tryd.runUnderlying189 Tryd.sizeOf21 rfl haq_9 rfl rfl hk1) (.skip (.keep (.keep (.keep .nil)))) (Fz.le.refl _) ?_
      refine dT 11 rfl rfl rfl (by kernel_rfl) (fun _ _ _ h => h) (y_ld (Says.fz hbq_9) Tryd.isAgg21 rfl (Nat.add_zero _).symm rfl) (.skip (.keep (.keep (.keep .nil)))) (Fz.le.refl _) ?_
      refine dT 12 rfl rfl rfl (by kernel_rfl) (fun _ _ _ h => h) (y_cv Tryd.runUnderlying21 Tryd.runUnderlying2 rfl (i32_64 _)) (.skip (.keep (.keep (.keep .nil)))) (Fz.le.refl _) ?_
      refine dT 13 rfl rfl rfl (by kernel_rfl) (fun _ _ _ h => h) (y_bd S26 rfl rfl) (.skip (.keep (.keep (.keep .nil)))) (Fz.le.refl _) ?_
      refine dT 14 rfl rfl rfl (by kernel_rfl) (fun _ _ _ h => h) (y_ls Tryd.runUnderlying23 rfl) (.skip (.keep (.keep (.keep .nil)))) (Fz.le.refl _) ?_
      refine dE 15 (by kernel_rfl) rfl ?_
      refine bs' L23 rfl rfl rfl rfl (fun b_10 => ?_)
      refine dN (.skip (.skip (.keep (.keep (.keep .nil))))) (Fz.le.refl _) ?_
      refine dE 16 (by kernel_rfl) rfl ?_
      have hmk : ml1 = k1 := by have h1 := congrArg List.length pk12; rw [List.length_map, List.length_map, List.length_take] at h1; omega
      have hmb := (hf.at 1).lTl
      refine ap (k := 1) (news := f5 ((TC.none, Tr.none) : EE)) Tryd.underlying23 I26 rfl rfl pk10 (fun _ => (.tail .head)) (src_says Tryd.underlying23 rfl (fun _ => Says.own .head) (f5_one _)) (by omega) (by unfold maxLen; omega) rfl (fun a51 c51 N51 r51 z51 => ?_)
      refine dN (.skip (.skip (.keep (.keep (.keep .nil))))) (Fz.le.refl _) ?_
      refine dE 17 (by kernel_rfl) rfl ?_
      refine ixk (j := 1) Tryd.runUnderlying23 Tryd.sizeOf26 rfl rfl rfl rfl (by decide) rfl ?_
      refine dN (.skip (.skip (.keep (.keep (.keep .nil))))) (Fz.le.refl _) ?_
      refine dT 18 rfl rfl rfl (by kernel_rfl) (fun _ _ _ h => h) (y_fa F26_3 rfl) (.skip (.skip (.keep (.keep (.keep .nil))))) (Fz.le.refl _) ?_
      refine dE 19 (by kernel_rfl) rfl ?_
      refine st Tryd.sizeOf23 rfl rfl rfl rfl (.tail (.tail (.tail .head))) ?_
      refine dNk (by kernel_rfl) ?_
      refine dD (by kernel_rfl) ?_
      refine Nt ?_
      refine rg ?_
      obtain ⟨gg51, hgg51⟩ := r51.addr (by omega)
      refine ixk (j := ml1) Tryd.runUnderlying23 Tryd.sizeOf26 rfl hgg51 rfl rfl (by omega) rfl ?_
      refine sR (ds := f5 (((TC.none : TC), (Tr.mk (IntKind.i32.wrap ((lT (T.at 1))[k1]).n) [] false [] [] : Tr)) : EE)) r51 hgg51 (fun _ => (.tail .head)) Tryd.sizeOf26 rfl rfl rfl rfl (by omega) (fun N51b r51b => ?_)
      rw [row_put (k := 5) (m := ml1) (A := es1.flatMap f5) (by rw [flatMap_len f5 5 f5_len, pk11]) rfl, flatMap_snoc'] at r51b
      refine nN ?_
      refine Nb ?_
      refine drN .head ?_
      refine fun a_ w_ hA hw => ⟨_, _, _, hA.sub ?_, le_4, hw, _, rfl, a51, (ml1 + 1), c51, (es1 ++ [(((TC.none : TC), (Tr.mk (IntKind.i32.wrap ((lT (T.at 1))[k1]).n) [] false [] [] : Tr)) : EE)]), N51b, rfl, rfl, r51b, (by simp; omega), (map_take_snoc (g := (fun y : Tr => (Tr.mk (IntKind.i32.wrap y.n) [] false [] [] : Tr))) hk1 pk12), (fun p hp => (mem_snoc hp).elim (fun h => (pk13 p h).mono (Fz.le.refl _)) (fun h => h ▸ (.of (.nil _) (.nil _) (.nil _))))⟩
      exact (.cons rfl (.cons rfl (.cons rfl (.cons rfl (.cons rfl (.nil _))))))
  · skip
    obtain ⟨al1, ml1, cl1, es1, Nl1, rfl, rfl, pk10, pk11, pk12, pk13⟩ := hI
    refine toWp ?_
    have hes1 : es1.map (·.2) = (lT (T.at 1)).map (fun y : Tr => (Tr.mk (IntKind.i32.wrap y.n) [] false [] [] : Tr)) := by rw [pk12, List.take_length]
    have hm1 : ml1 = ((lT (T.at 1)).map (fun y : Tr => (Tr.mk (IntKind.i32.wrap y.n) [] false [] [] : Tr))).length := by rw [← hes1, List.length_map]; exact pk11
    refine frW pk10 .head (fun Hl1 hll1 hzl1 => ?_)
    have ht1 := TreesAt.row hzl1 pk11 pk10.le.1 (by have h1 := congrArg List.length hes1; rw [List.length_map, List.length_map] at h1; unfold B47; omega) (fun p hp => (pk13 p hp).mono hll1)
    rw [hes1] at ht1
    subst hm1
    refine sr ?_
    refine mv rfl rfl ?_
    refine nc rfl rfl ?_
    refine fa F191_2 rfl rfl ?_
    refine mkf rfl rfl ?_
    obtain ⟨kvs, hM, hlen, hel⟩ := (h2.mono (hlu13.trans (le_5.trans hll1)))
    have hfu := hf.u
    refine cl rfl rfl rfl (t_each (j := 17) (I := fun i H1 Y => TgI 61 b_3 26 (.int .i64 0) (.slice none 0 0) (.bool false) (_) T.u i H1 Y) (hb.mono (hlu13.trans (le_5.trans hll1))) rfl hM (by omega) (fun i H1 H2 Y hle h => h.mono hle) TgI.start (fun i k v H1 Y L1 hi hle hI => ?_)) rfl (fun v_ H1 L1 le_12 hR_ => ?_)
    · obtain ⟨s, h1, ⟨va, vc, rfl, hx⟩, h2, h3⟩ := hel i k v hi
      have hik := sortKv_lt hi
      exact TgI.step (fun {_ _ _ _ _ _ _ _ _ _ _ _ _ _ _ _} => tc_230) hf.v (by omega) h1 (hx.mono hle) h2 h3 hI
    rw [hlen] at hR_
    obtain ⟨_, rfl, aU, cU, NU, esU, rfl, hrU, heU, hgU⟩ := hR_
    refine splL ?_
    rw [List.take_length] at heU
    refine frL hrU (.tail .head) (fun HU hleU hzU => ?_)
    have hU := (TagsAt.told hzU hrU heU hfu (fun p hp => (hgU p hp).mono hleU)).1
    refine nl ?_
    refine sr ?_
    refine fa0 F26_4 rfl rfl ?_
    refine ld (Says.own .head) Tryd.isAgg24 rfl (Nat.zero_add _).symm rfl rfl ?_
    refine cl rfl rfl rfl (k_sorted hU (h2.mono (hlu13.trans (le_5.trans (hll1.trans (le_12.trans hleU))))).rise) rfl (fun v_ H1 L1 hle_ hR_ => ?_)
    obtain ⟨rfl, rfl⟩ := hR_
    refine nl ?_
    refine sr ?_
    refine la (Says.own .head) Tryd.isAgg26 Tryd.sizeOf26 rfl (Nat.zero_add _).symm rfl rfl ?_
    refine sa Tryd.sizeOf26 rfl rfl rfl rfl rfl (.tail (.tail .head)) ?_
    refine nl ?_
    refine drW .head ?_
    refine frW (Row.whole (e := 26) (size := 5) (m := 2) (ds := [.int .i64 0, .slice a13 16 c13, .bool false, .slice none 0 0, .slice none 0 0, .int .i64 0, .slice none 0 0, .bool a1.isNone, .slice al1 ((lT (T.at 1)).map (fun y : Tr => (Tr.mk (IntKind.i32.wrap y.n) [] false [] [] : Tr))).length cl1, .slice none 0 0]) rfl (by unfold maxLen; omega)) .head (fun H9 hle9 hz9 => ?_)
    have hrb : H9.at b_2 0 [.int .i64 0, .slice a13 16 c13, .bool false, .slice none 0 0, .slice none 0 0, .int .i64 0, .slice none 0 0, .bool a1.isNone, .slice al1 ((lT (T.at 1)).map (fun y : Tr => (Tr.mk (IntKind.i32.wrap y.n) [] false [] [] : Tr))).length cl1, .slice none 0 0] := by
      rcases hz9 with ⟨h, _⟩ | ⟨g, h, h2⟩
      · cases h
      · cases h; exact h2
    rw [(h1).nul] at hrb
    have hq9_0 := pad16_len (T.at 0).s
    have hrb2 : H9.at b_2 0 (([((⟨a13, c13, none, 0, none, 0⟩ : TC), (Tr.mk 0 (pad16 (T.at 0).s) false [] [] : Tr)), ((⟨none, 0, al1, cl1, none, 0⟩ : TC), (Tr.mk 0 [] (T.at 1).nul ((lT (T.at 1)).map (fun y : Tr => (Tr.mk (IntKind.i32.wrap y.n) [] false [] [] : Tr))) [] : Tr))] : List EE).flatMap fun p => p.1.cells p.2) := by
      simp only [List.flatMap_cons, List.flatMap_nil, TC.cells, Tr.n, Tr.s, Tr.nul, Tr.l, Tr.u, TC.none, pad16_len]
      exact hrb
    have hl9 : TreesAt H9 (some ⟨b_2, 0, none⟩) 2 [(.mk 0 (pad16 (T.at 0).s) false [] []), (.mk 0 [] (T.at 1).nul ((lT (T.at 1)).map (fun y : Tr => (Tr.mk (IntKind.i32.wrap y.n) [] false [] [] : Tr))) [])] := by
      refine TreesAt.row (es := [((⟨a13, c13, none, 0, none, 0⟩ : TC), (Tr.mk 0 (pad16 (T.at 0).s) false [] [] : Tr)), ((⟨none, 0, al1, cl1, none, 0⟩ : TC), (Tr.mk 0 [] (T.at 1).nul ((lT (T.at 1)).map (fun y : Tr => (Tr.mk (IntKind.i32.wrap y.n) [] false [] [] : Tr))) [] : Tr))]) (.inr ⟨_, rfl, hrb2⟩) rfl (Nat.le_refl _) (Nat.le_of_ble_eq_true rfl) ?_
      intro p hp
      simp only [List.mem_cons, List.not_mem_nil, or_false] at hp
      rcases hp with rfl | rfl
      · exact (.of (hb13.mono (le_5.trans (hll1.trans (le_12.trans (hleU.trans hle9))))) (.nil _) (.nil _))
      · exact (.of (.nil _) (ht1.mono (le_12.trans (hleU.trans hle9))) (.nil _))
    exact rC rfl Tryd.isAgg26 Tryd.sizeOf26 rfl .head rfl (hlu13.trans (le_5.trans (hll1.trans (le_12.trans (hleU.trans hle9))))) (fun _ _ h => h) ⟨rfl, ⟨none, 0, some ⟨b_2, 0, none⟩, 2, aU, cU⟩, rfl, .of (.nil _) hl9 (hU.mono hle9)⟩
def tl_ShareFetchRequest (T : Tr) : Tr := .mk 0 [] false [(.mk 0 (sT (T.at 0)) (T.at 0).nul [] []), (.mk 0 (sT (T.at 1)) (T.at 1).nul [] []), (.mk (IntKind.i32.wrap (T.at 2).n) [] false [] []), (.mk (IntKind.i32.wrap (T.at 3).n) [] false [] []), (.mk (IntKind.i32.wrap (T.at 4).n) [] false [] []), (.mk (IntKind.i32.wrap (T.at 5).n) [] false [] []), (.mk (IntKind.i32.wrap (T.at 6).n) [] false [] []), (.mk (IntKind.i32.wrap (T.at 7).n) [] false [] []), (.mk (IntKind.i8.wrap (T.at 8).n) [] false [] []), (.mk (if decide ((T.at 9).n % 2 = 1) = true then 1 else 0) [] false [] []), (.mk 0 [] (T.at 10).nul ((lT (T.at 10)).map tl_ShareFetchRequestTopic) []), (.mk 0 [] (T.at 11).nul ((lT (T.at 11)).map tl_ShareFetchRequestForgottenTopicsData) [])] T.u
theorem te_ShareFetchRequest {H : Fz} {L : Own} {b o : Nat} {cs : List Value} {T : Tr} {ver : Int} (hb : H.at b o cs) (hA : At_ShareFetchRequest ver H T cs) (hf : Fits T) :
    Fn Tryd.prog 116 [.pointer (some ⟨b, o, none⟩)] H L (fun v H' L' => L = L' ∧ ∃ c : TC, v = .agg (c.cells (tl_ShareFetchRequest T)).toArray ∧ TreeAt H' c (tl_ShareFetchRequest T)) := by
  obtain ⟨p0, p1, a10, c10, a11, c11, mt, rfl, h1, h2, h3, h4, h5⟩ := hA
  refine Fn.mk Tryd.call116 Tryd.func116 rfl Tryd.ntmps116 rfl ?_
  refine sr ?_
  refine al Tryd.zeroValue26 rfl rfl (fun b_1 => ?_)
  refine nl ?_
  refine sr ?_
  refine mkC (m := 12) (zs := [.int .i64 0, .slice none 0 0, .bool false, .slice none 0 0, .slice none 0 0]) Tryd.underlying23 I26 rfl rfl rfl rfl rfl rfl (by decide) (by unfold maxLen; omega) rfl (fun b_2 => ?_)
  refine bd' S26 rfl rfl rfl ?_
  refine al Tryd.zeroValue26 rfl rfl (fun b_3 => ?_)
  refine sa Tryd.sizeOf26 rfl rfl rfl rfl rfl .head ?_
  refine nl ?_
  refine sq ?_
  refine rgD 8 (.keep (.keep (.keep .nil))) mixed ?_
  refine dT 0 rfl rfl rfl (by kernel_rfl) (fun _ _ _ h => h) (y_fa0 F26_3 rfl) (.keep (.keep (.keep .nil))) (Fz.le.refl _) ?_
  refine dT 1 rfl rfl rfl (by kernel_rfl) (fun _ _ _ h => h) (y_ld (Says.own .head) Tryd.isAgg23 rfl (Nat.zero_add _).symm rfl) (.keep (.keep (.keep .nil))) (Fz.le.refl _) ?_
  refine dT 2 rfl rfl rfl (by kernel_rfl) (fun _ _ _ h => h) (y_mv rfl) (.keep (.keep (.keep .nil))) (Fz.le.refl _) ?_
  refine dT 3 rfl rfl rfl (by kernel_rfl) (fun _ _ _ h => h) (y_nc rfl) (.keep (.keep (.keep .nil))) (Fz.le.refl _) ?_
  refine dT 4 rfl rfl rfl (by kernel_rfl) (fun _ _ _ h => h) (y_fa F181_1 rfl) (.keep (.keep (.keep .nil))) (Fz.le.refl _) ?_
  refine dT 5 rfl rfl rfl (by kernel_rfl) (fun _ _ _ h => h) (y_ld (j := 1) (Says.fz hb) Tryd.isAgg104 rfl rfl rfl) (.keep (.keep (.keep .nil))) (Fz.le.refl _) ?_
  refine dE 6 (by kernel_rfl) rfl ?_
  refine cl rfl rfl rfl (k_textTree h1 (hf.at 0)) rfl (fun v_ H1 L1 le_4 hR_ => ?_)
  obtain ⟨rfl, ct14, rfl, hT14⟩ := hR_
  refine dN (.keep (.keep (.keep .nil))) le_4 ?_
  refine dT 7 rfl rfl rfl (by kernel_rfl) (fun _ _ _ h => h) (y_ix2 (j := 0) Tryd.runUnderlying23 Tryd.sizeOf26 rfl rfl rfl rfl (by decide)) (.keep (.keep (.keep .nil))) le_4 ?_
  refine dE 8 (by kernel_rfl) rfl ?_
  refine sa Tryd.sizeOf26 rfl rfl rfl rfl rfl (.tail .head) ?_
  refine dNk (by kernel_rfl) ?_
  refine dD (by kernel_rfl) ?_
  refine Nt ?_
  refine sq ?_
  refine rgD 8 (.keep (.keep (.keep .nil))) mixed ?_
  refine dT 0 rfl rfl rfl (by kernel_rfl) (fun _ _ _ h => h) (y_fa0 F26_3 rfl) (.keep (.keep (.keep .nil))) (Fz.le.refl _) ?_
  refine dT 1 rfl rfl rfl (by kernel_rfl) (fun _ _ _ h => h) (y_ld (Says.own .head) Tryd.isAgg23 rfl (Nat.zero_add _).symm rfl) (.keep (.keep (.keep .nil))) (Fz.le.refl _) ?_
  refine dT 2 rfl rfl rfl (by kernel_rfl) (fun _ _ _ h => h) (y_mv rfl) (.keep (.keep (.keep .nil))) (Fz.le.refl _) ?_
  refine dT 3 rfl rfl rfl (by kernel_rfl) (fun _ _ _ h => h) (y_nc rfl) (.keep (.keep (.keep .nil))) (Fz.le.refl _) ?_
  refine dT 4 rfl rfl rfl (by kernel_rfl) (fun _ _ _ h => h) (y_fa F181_2 rfl) (.keep (.keep (.keep .nil))) (Fz.le.refl _) ?_
  refine dT 5 rfl rfl rfl (by kernel_rfl) (fun _ _ _ h => h) (y_ld (j := 2) (Says.fz (hb.mono le_4)) Tryd.isAgg104 rfl rfl rfl) (.keep (.keep (.keep .nil))) (Fz.le.refl _) ?_
  refine dE 6 (by kernel_rfl) rfl ?_
  refine cl rfl rfl rfl (k_textTree (h2.mono le_4) (hf.at 1)) rfl (fun v_ H1 L1 le_5 hR_ => ?_)
  obtain ⟨rfl, ct22, rfl, hT22⟩ := hR_
  refine dN (.keep (.keep (.keep .nil))) le_5 ?_
  refine dT 7 rfl rfl rfl (by kernel_rfl) (fun _ _ _ h => h) (y_ix2 (j := 1) Tryd.runUnderlying23 Tryd.sizeOf26 rfl rfl rfl rfl (by decide)) (.keep (.keep (.keep .nil))) le_5 ?_
  refine dE 8 (by kernel_rfl) rfl ?_
  refine sa Tryd.sizeOf26 rfl rfl rfl rfl rfl (.tail .head) ?_
  refine dNk (by kernel_rfl) ?_
  refine dD (by kernel_rfl) ?_
  refine Nt ?_
  refine sq ?_
  refine rgD 9 (.keep (.keep (.keep .nil))) mixed ?_
  refine dT 0 rfl rfl rfl (by kernel_rfl) (fun _ _ _ h => h) (y_fa0 F26_3 rfl) (.keep (.keep (.keep .nil))) (Fz.le.refl _) ?_
  refine dT 1 rfl rfl rfl (by kernel_rfl) (fun _ _ _ h => h) (y_ld (Says.own .head) Tryd.isAgg23 rfl (Nat.zero_add _).symm rfl) (.keep (.keep (.keep .nil))) (Fz.le.refl _) ?_
  refine dT 2 rfl rfl rfl (by kernel_rfl) (fun _ _ _ h => h) (y_mv rfl) (.keep (.keep (.keep .nil))) (Fz.le.refl _) ?_
  refine dT 3 rfl rfl rfl (by kernel_rfl) (fun _ _ _ h => h) (y_nc rfl) (.keep (.keep (.keep .nil))) (Fz.le.refl _) ?_
  refine dT 4 rfl rfl rfl (by kernel_rfl) (fun _ _ _ h => h) (y_fa F181_3 rfl) (.keep (.keep (.keep .nil))) (Fz.le.refl _) ?_
  refine dT 5 rfl rfl rfl (by kernel_rfl) (fun _ _ _ h => h) (y_ld (j := 3) (Says.fz (hb.mono (le_4.trans le_5))) Tryd.isAgg21 rfl rfl rfl) (.keep (.keep (.keep .nil))) (Fz.le.refl _) ?_
  refine dT 6 rfl rfl rfl (by kernel_rfl) (fun _ _ _ h => h) (y_cv Tryd.runUnderlying21 Tryd.runUnderlying2 rfl (i32_64 _)) (.keep (.keep (.keep .nil))) (Fz.le.refl _) ?_
  refine dT 7 rfl rfl rfl (by kernel_rfl) (fun _ _ _ h => h) (y_bd S26 rfl rfl) (.keep (.keep (.keep .nil))) (Fz.le.refl _) ?_
  refine dT 8 rfl rfl rfl (by kernel_rfl) (fun _ _ _ h => h) (y_ix2 (j := 2) Tryd.runUnderlying23 Tryd.sizeOf26 rfl rfl rfl rfl (by decide)) (.keep (.keep (.keep .nil))) (Fz.le.refl _) ?_
  refine dE 9 (by kernel_rfl) rfl ?_
  refine sa Tryd.sizeOf26 rfl rfl rfl rfl rfl (.tail .head) ?_
  refine dNk (by kernel_rfl) ?_
  refine dD (by kernel_rfl) ?_
  refine Nt ?_
  refine sq ?_
  refine rgD 9 (.keep (.keep (.keep .nil))) mixed ?_
  refine dT 0 rfl rfl rfl (by kernel_rfl) (fun _ _ _ h => h) (y_fa0 F26_3 rfl) (.keep (.keep (.keep .nil))) (Fz.le.refl _) ?_
  refine dT 1 rfl rfl rfl (by kernel_rfl) (fun _ _ _ h => h) (y_ld (Says.own .head) Tryd.isAgg23 rfl (Nat.zero_add _).symm rfl) (.keep (.keep (.keep .nil))) (Fz.le.refl _) ?_
  refine dT 2 rfl rfl rfl (by kernel_rfl) (fun _ _ _ h => h) (y_mv rfl) (.keep (.keep (.keep .nil))) (Fz.le.refl _) ?_
  refine dT 3 rfl rfl rfl (by kernel_rfl) (fun _ _ _ h => h) (y_nc rfl) (.keep (.keep (.keep .nil))) (Fz.le.refl _) ?_
  refine dT 4 rfl rfl rfl (by kernel_rfl) (fun _ _ _ h => h) (y_fa F181_4 rfl) (.keep (.keep (.keep .nil))) (Fz.le.refl _) ?_
  refine dT 5 rfl rfl rfl (by kernel_rfl) (fun _ _ _ h => h) (y_ld (j := 4) (Says.fz (hb.mono (le_4.trans le_5))) Tryd.isAgg21 rfl rfl rfl) (.keep (.keep (.keep .nil))) (Fz.le.refl _) ?_
  refine dT 6 rfl rfl rfl (by kernel_rfl) (fun _ _ _ h => h) (y_cv Tryd.runUnderlying21 Tryd.runUnderlying2 rfl (i32_64 _)) (.keep (.keep (.keep .nil))) (Fz.le.refl _) ?_
  refine dT 7 rfl rfl rfl (by kernel_rfl) (fun _ _ _ h => h) (y_bd S26 rfl rfl) (.keep (.keep (.keep .nil))) (Fz.le.refl _) ?_
  refine dT 8 rfl rfl rfl (by kernel_rfl) (fun _ _ _ h => h) (y_ix2 (j := 3) Tryd.runUnderlying23 Tryd.sizeOf26 rfl rfl rfl rfl (by decide)) (.keep (.keep (.keep .nil))) (Fz.le.refl _) ?_
  refine dE 9 (by kernel_rfl) rfl ?_
  refine sa Tryd.sizeOf26 rfl rfl rfl rfl rfl (.tail .head) ?_
  refine dNk (by kernel_rfl) ?_
  refine dD (by kernel_rfl) ?_
  refine Nt ?_
  refine sq ?_
  refine rgD 9 (.keep (.keep (.keep .nil))) mixed ?_
  refine dT 0 rfl rfl rfl (by kernel_rfl) (fun _ _ _ h => h) (y_fa0 F26_3 rfl) (.keep (.keep (.keep .nil))) (Fz.le.refl _) ?_
  refine dT 1 rfl rfl rfl (by kernel_rfl) (fun _ _ _ h => h) (y_ld (Says.own .head) Tryd.isAgg23 rfl (Nat.zero_add _).symm rfl) (.keep (.keep (.keep .nil))) (Fz.le.refl _) ?_
  refine dT 2 rfl rfl rfl (by kernel_rfl) (fun _ _ _ h => h) (y_mv rfl) (.keep (.keep (.keep .nil))) (Fz.le.refl _) ?_
  refine dT 3 rfl rfl rfl (by kernel_rfl) (fun _ _ _ h => h) (y_nc rfl) (.keep (.keep (.keep .nil))) (Fz.le.refl _) ?_
  refine dT 4 rfl rfl rfl (by kernel_rfl) (fun _ _ _ h => h) (y_fa F181_5 rfl) (.keep (.keep (.keep .nil))) (Fz.le.refl _) ?_
  refine dT 5 rfl rfl rfl (by kernel_rfl) (fun _ _ _ h => h) (y_ld (j := 5) (Says.fz (hb.mono (le_4.trans le_5))) Tryd.isAgg21 rfl rfl rfl) (.keep (.keep (.keep .nil))) (Fz.le.refl _) ?_
  refine dT 6 rfl rfl rfl (by kernel_rfl) (fun _ _ _ h => h) (y_cv Tryd.runUnderlying21 Tryd.runUnderlying2 rfl (i32_64 _)) (.keep (.keep (.keep .nil))) (Fz.le.refl _) ?_
  refine dT 7 rfl rfl rfl (by kernel_rfl) (fun _ _ _ h => h) (y_bd S26 rfl rfl) (.keep (.keep (.keep .nil))) (Fz.le.refl _) ?_
  refine dT 8 rfl rfl rfl (by kernel_rfl) (fun _ _ _ h => h) (y_ix2 (j := 4) Tryd.runUnderlying23 Tryd.sizeOf26 rfl rfl rfl rfl (by decide)) (.keep (.keep (.keep .nil))) (Fz.le.refl _) ?_
  refine dE 9 (by kernel_rfl) rfl ?_
  refine sa Tryd.sizeOf26 rfl rfl rfl rfl rfl (.tail .head) ?_
  refine dNk (by kernel_rfl) ?_
  refine dD (by kernel_rfl) ?_
  refine Nt ?_
  refine sq ?_
  refine rgD 9 (.keep (.keep (.keep .nil))) mixed ?_
  refine dT 0 rfl rfl rfl (by kernel_rfl) (fun _ _ _ h => h) (y_fa0 F26_3 rfl) (.keep (.keep (.keep .nil))) (Fz.le.refl _) ?_
  refine dT 1 rfl rfl rfl (by kernel_rfl) (fun _ _ _ h => h) (y_ld (Says.own .head) Tryd.isAgg23 rfl (Nat.zero_add _).symm rfl) (.keep (.keep (.keep .nil))) (Fz.le.refl _) ?_
  refine dT 2 rfl rfl rfl (by kernel_rfl) (fun _ _ _ h => h) (y_mv rfl) (.keep (.keep (.keep .nil))) (Fz.le.refl _) ?_
  refine dT 3 rfl rfl rfl (by kernel_rfl) (fun _ _ _ h => h) (y_nc rfl) (.keep (.keep (.keep .nil))) (Fz.le.refl _) ?_
  refine dT 4 rfl rfl rfl (by kernel_rfl) (fun _ _ _ h => h) (y_fa F181_6 rfl) (.keep (.keep (.keep .nil))) (Fz.le.refl _) ?_
  refine dT 5 rfl rfl rfl (by kernel_rfl) (fun _ _ _ h => h) (y_ld (j := 6) (Says.fz (hb.mono (le_4.trans le_5))) Tryd.isAgg21 rfl rfl rfl) (.keep (.keep (.keep .nil))) (Fz.le.refl _) ?_
  refine dT 6 rfl rfl rfl (by kernel_rfl) (fun _ _ _ h => h) (y_cv Tryd.runUnderlying21 Tryd.runUnderlying2 rfl (i32_64 _)) (.keep (.keep (.keep .nil))) (Fz.le.refl _) ?_
  refine dT 7 rfl rfl rfl (by kernel_rfl) (fun _ _ _ h => h) (y_bd S26 rfl rfl) (.keep (.keep (.keep .nil))) (Fz.le.refl _) ?_
  refine dT 8 rfl rfl rfl (by kernel_rfl) (fun _ _ _ h => h) (y_ix2 (j := 5) Tryd.runUnderlying23 Tryd.sizeOf26 rfl rfl rfl rfl (by decide)) (.keep (.keep (.keep .nil))) (Fz.le.refl _) ?_
  refine dE 9 (by kernel_rfl) rfl ?_
  refine sa Tryd.sizeOf26 rfl rfl rfl rfl rfl (.tail .head) ?_
  refine dNk (by kernel_rfl) ?_
  refine dD (by kernel_rfl) ?_
  refine Nt ?_
  refine sq ?_
  refine rgD 9 (.keep (.keep (.keep .nil))) mixed ?_
  refine dT 0 rfl rfl rfl (by kernel_rfl) (fun _ _ _ h => h) (y_fa0 F26_3 rfl) (.keep (.keep (.keep .nil))) (Fz.le.refl _) ?_
  refine dT 1 rfl rfl rfl (by kernel_rfl) (fun _ _ _ h => h) (y_ld (Says.own .head) Tryd.isAgg23 rfl (Nat.zero_add _).symm rfl) (.keep (.keep (.keep .nil))) (Fz.le.refl _) ?_
  refine dT 2 rfl rfl rfl (by kernel_rfl) (fun _ _ _ h => h) (y_mv rfl) (.keep (.keep (.keep .nil))) (Fz.le.refl _) ?_
  refine dT 3 rfl rfl rfl (by kernel_rfl) (fun _ _ _ h => h) (y_nc rfl) (.keep (.keep (.keep .nil))) (Fz.le.refl _) ?_
  refine dT 4 rfl rfl rfl (by kernel_rfl) (fun _ _ _ h => h) (y_fa F181_7 rfl) (.keep (.keep (.keep .nil))) (Fz.le.refl _) ?_
  refine dT 5 rfl rfl rfl (by kernel_rfl) (fun _ _ _ h => h) (y_ld (j := 7) (Says.fz (hb.mono (le_4.trans le_5))) Tryd.isAgg21 rfl rfl rfl) (.keep (.keep (.keep .nil))) (Fz.le.refl _) ?_
  refine dT 6 rfl rfl rfl (by kernel_rfl) (fun _ _ _ h => h) (y_cv Tryd.runUnderlying21 Tryd.runUnderlying2 rfl (i32_64 _)) (.keep (.keep (.keep .nil))) (Fz.le.refl _) ?_
  refine dT 7 rfl rfl rfl (by kernel_rfl) (fun _ _ _ h => h) (y_bd S26 rfl rfl) (.keep (.keep (.keep .nil))) (Fz.le.refl _) ?_
  refine dT 8 rfl rfl rfl (by kernel_rfl) (fun _ _ _ h => h) (y_ix2 (j := 6) Tryd.runUnderlying23 Tryd.sizeOf26 rfl rfl rfl rfl (by decide)) (.keep (.keep (.keep .nil))) (Fz.le.refl _) ?_
  refine dE 9 (by kernel_rfl) rfl ?_
  refine sa Tryd.sizeOf26 rfl rfl rfl rfl rfl (.tail .head) ?_
  refine dNk (by kernel_rfl) ?_
  refine dD (by kernel_rfl) ?_
  refine Nt ?_
  refine sq ?_
  refine rgD 9 (.keep (.keep (.keep .nil))) mixed ?_
  refine dT 0 rfl rfl rfl (by kernel_rfl) (fun _ _ _ h => h) (y_fa0 F26_3 rfl) (.keep (.keep (.keep .nil))) (Fz.le.refl _) ?_
  refine dT 1 rfl rfl rfl (by kernel_rfl) (fun _ _ _ h => h) (y_ld (Says.own .head) Tryd.isAgg23 rfl (Nat.zero_add _).symm rfl) (.keep (.keep (.keep .nil))) (Fz.le.refl _) ?_
  refine dT 2 rfl rfl rfl (by kernel_rfl) (fun _ _ _ h => h) (y_mv rfl) (.keep (.keep (.keep .nil))) (Fz.le.refl _) ?_
  refine dT 3 rfl rfl rfl (by kernel_rfl) (fun _ _ _ h => h) (y_nc rfl) (.keep (.keep (.keep .nil))) (Fz.le.refl _) ?_
  refine dT 4 rfl rfl rfl (by kernel_rfl) (fun _ _ _ h => h) (y_fa F181_8 rfl) (.keep (.keep (.keep .nil))) (Fz.le.refl _) ?_
  refine dT 5 rfl rfl rfl (by kernel_rfl) (fun _ _ _ h => h) (y_ld (j := 8) (Says.fz (hb.mono (le_4.trans le_5))) Tryd.isAgg21 rfl rfl rfl) (.keep (.keep (.keep .nil))) (Fz.le.refl _) ?_
  refine dT 6 rfl rfl rfl (by kernel_rfl) (fun _ _ _ h => h) (y_cv Tryd.runUnderlying21 Tryd.runUnderlying2 rfl (i32_64 _)) (.keep (.keep (.keep .nil))) (Fz.le.refl _) ?_
  refine dT 7 rfl rfl rfl (by kernel_rfl) (fun _ _ _ h => h) (y_bd S26 rfl rfl) (.keep (.keep (.keep .nil))) (Fz.le.refl _) ?_
  refine dT 8 rfl rfl rfl (by kernel_rfl) (fun _ _ _ h => h) (y_ix2 (j := 7) Tryd.runUnderlying23 Tryd.sizeOf26 rfl rfl rfl rfl (by decide)) (.keep (.keep (.keep .nil))) (Fz.le.refl _) ?_
  refine dE 9 (by kernel_rfl) rfl ?_
  refine sa Tryd.sizeOf26 rfl rfl rfl rfl rfl (.tail .head) ?_
  refine dNk (by kernel_rfl) ?_
  refine dD (by kernel_rfl) ?_
  refine Nt ?_
  refine sq ?_
  refine rgD 9 (.keep (.keep (.keep .nil))) mixed ?_
  refine dT 0 rfl rfl rfl (by kernel_rfl) (fun _ _ _ h => h) (y_fa0 F26_3 rfl) (.keep (.keep (.keep .nil))) (Fz.le.refl _) ?_
  refine dT 1 rfl rfl rfl (by kernel_rfl) (fun _ _ _ h => h) (y_ld (Says.own .head) Tryd.isAgg23 rfl (Nat.zero_add _).symm rfl) (.keep (.keep (.keep .nil))) (Fz.le.refl _) ?_
  refine dT 2 rfl rfl rfl (by kernel_rfl) (fun _ _ _ h => h) (y_mv rfl) (.keep (.keep (.keep .nil))) (Fz.le.refl _) ?_
  refine dT 3 rfl rfl rfl (by kernel_rfl) (fun _ _ _ h => h) (y_nc rfl) (.keep (.keep (.keep .nil))) (Fz.le.refl _) ?_
  refine dT 4 rfl rfl rfl (by kernel_rfl) (fun _ _ _ h => h) (y_fa F181_9 rfl) (.keep (.keep (.keep .nil))) (Fz.le.refl _) ?_
  refine dT 5 rfl rfl rfl (by kernel_rfl) (fun _ _ _ h => h) (y_ld (j := 9) (Says.fz (hb.mono (le_4.trans le_5))) Tryd.isAgg126 rfl rfl rfl) (.keep (.keep (.keep .nil))) (Fz.le.refl _) ?_
  refine dT 6 rfl rfl rfl (by kernel_rfl) (fun _ _ _ h => h) (y_cv Tryd.runUnderlying126 Tryd.runUnderlying2 rfl (i8_64 _)) (.keep (.keep (.keep .nil))) (Fz.le.refl _) ?_
  refine dT 7 rfl rfl rfl (by kernel_rfl) (fun _ _ _ h => h) (y_bd S26 rfl rfl) (.keep (.keep (.keep .nil))) (Fz.le.refl _) ?_
  refine dT 8 rfl rfl rfl (by kernel_rfl) (fun _ _ _ h => h) (y_ix2 (j := 8) Tryd.runUnderlying23 Tryd.sizeOf26 rfl rfl rfl rfl (by decide)) (.keep (.keep (.keep .nil))) (Fz.le.refl _) ?_
  refine dE 9 (by kernel_rfl) rfl ?_
  refine sa Tryd.sizeOf26 rfl rfl rfl rfl rfl (.tail .head) ?_
  refine dNk (by kernel_rfl) ?_
  refine dD (by kernel_rfl) ?_
  refine Nt ?_
  refine sq ?_
  refine rgD 8 (.keep (.keep (.keep .nil))) mixed ?_
  refine dT 0 rfl rfl rfl (by kernel_rfl) (fun _ _ _ h => h) (y_fa0 F26_3 rfl) (.keep (.keep (.keep .nil))) (Fz.le.refl _) ?_
  refine dT 1 rfl rfl rfl (by kernel_rfl) (fun _ _ _ h => h) (y_ld (Says.own .head) Tryd.isAgg23 rfl (Nat.zero_add _).symm rfl) (.keep (.keep (.keep .nil))) (Fz.le.refl _) ?_
  refine dT 2 rfl rfl rfl (by kernel_rfl) (fun _ _ _ h => h) (y_mv rfl) (.keep (.keep (.keep .nil))) (Fz.le.refl _) ?_
  refine dT 3 rfl rfl rfl (by kernel_rfl) (fun _ _ _ h => h) (y_nc rfl) (.keep (.keep (.keep .nil))) (Fz.le.refl _) ?_
  refine dT 4 rfl rfl rfl (by kernel_rfl) (fun _ _ _ h => h) (y_fa F181_10 rfl) (.keep (.keep (.keep .nil))) (Fz.le.refl _) ?_
  refine dT 5 rfl rfl rfl (by kernel_rfl) (fun _ _ _ h => h) (y_ld (j := 10) (Says.fz (hb.mono (le_4.trans le_5))) Tryd.isAgg4 rfl rfl rfl) (.keep (.keep (.keep .nil))) (Fz.le.refl _) ?_
  refine dE 6 (by kernel_rfl) rfl ?_
  refine cl rfl rfl rfl (k_boolTree (p := (decide ((T.at 9).n % 2 = 1)))) rfl (fun v_ H1 L1 hle_ hR_ => ?_)
  obtain ⟨rfl, rfl, rfl⟩ := hR_
  refine dN (.keep (.keep (.keep .nil))) (Fz.le.refl _) ?_
  refine dT 7 rfl rfl rfl (by kernel_rfl) (fun _ _ _ h => h) (y_ix2 (j := 9) Tryd.runUnderlying23 Tryd.sizeOf26 rfl rfl rfl rfl (by decide)) (.keep (.keep (.keep .nil))) (Fz.le.refl _) ?_
  refine dE 8 (by kernel_rfl) rfl ?_
  refine sa Tryd.sizeOf26 rfl rfl rfl rfl rfl (.tail .head) ?_
  refine dNk (by kernel_rfl) ?_
  refine dD (by kernel_rfl) ?_
  refine Nt ?_
  refine sq ?_
  refine rgD 9 (.keep (.keep (.keep .nil))) mixed ?_
  refine dT 0 rfl rfl rfl (by kernel_rfl) (fun _ _ _ h => h) (y_fa0 F26_3 rfl) (.keep (.keep (.keep .nil))) (Fz.le.refl _) ?_
  refine dT 1 rfl rfl rfl (by kernel_rfl) (fun _ _ _ h => h) (y_ld (Says.own .head) Tryd.isAgg23 rfl (Nat.zero_add _).symm rfl) (.keep (.keep (.keep .nil))) (Fz.le.refl _) ?_
  refine dT 2 rfl rfl rfl (by kernel_rfl) (fun _ _ _ h => h) (y_mv rfl) (.keep (.keep (.keep .nil))) (Fz.le.refl _) ?_
  refine dT 3 rfl rfl rfl (by kernel_rfl) (fun _ _ _ h => h) (y_nc rfl) (.keep (.keep (.keep .nil))) (Fz.le.refl _) ?_
  refine dT 4 rfl rfl rfl (by kernel_rfl) (fun _ _ _ h => h) (y_fa F181_11 rfl) (.keep (.keep (.keep .nil))) (Fz.le.refl _) ?_
  refine dT 5 rfl rfl rfl (by kernel_rfl) (fun _ _ _ h => h) (y_ld (j := 11) (Says.fz (hb.mono (le_4.trans le_5))) Tryd.isAgg178 rfl rfl rfl) (.keep (.keep (.keep .nil))) (Fz.le.refl _) ?_
  refine dT 6 rfl rfl rfl (by kernel_rfl) (fun _ _ _ h => h) (y_esn Tryd.underlying178 rfl) (.keep (.keep (.keep .nil))) (Fz.le.refl _) ?_
  refine dE 7 (by kernel_rfl) rfl ?_
  refine ixk (j := 10) Tryd.runUnderlying23 Tryd.sizeOf26 rfl rfl rfl rfl (by decide) rfl ?_
  refine dN (.keep (.keep (.keep .nil))) (Fz.le.refl _) ?_
  refine dT 8 rfl rfl rfl (by kernel_rfl) (fun _ _ _ h => h) (y_fa F26_2 rfl) (.keep (.keep (.keep .nil))) (Fz.le.refl _) ?_
  refine dE 9 (by kernel_rfl) rfl ?_
  refine st Tryd.sizeOf4 rfl rfl rfl rfl (.tail .head) ?_
  refine dNk (by kernel_rfl) ?_
  refine dD (by kernel_rfl) ?_
  refine Nt ?_
  refine sq ?_
  refine sr ?_
  refine mv rfl rfl ?_
  refine nc rfl rfl ?_
  refine fa F181_11 rfl rfl ?_
  refine ld (Says.fz (hb.mono (le_4.trans le_5))) Tryd.isAgg178 rfl rfl rfl rfl ?_
  refine ls Tryd.runUnderlying178 rfl rfl ?_
  refine mv rfl rfl ?_
  refine nl ?_
  have hlm10 := (hf.at 10).lTl
  refine nulC2 ?_
  refine fr ((lT (T.at 10)).length) (fun k10 l' H' L' => ∃ (al10 : Option Addr), ∃ (ml10 : Nat), ∃ (cl10 : Nat), ∃ (es10 : List EE), ∃ (Nl10 : Chunk), [(0, .pointer (some ⟨b, o, none⟩)), (2, .pointer (some ⟨b_1, 0, none⟩)), (3, .pointer (some ⟨b_3, 0, none⟩)), (108, .int .i64 ((lT (T.at 10)).length : Int))] = l' ∧ Nl10 :: [(b_3, .cells [.int .i64 0, .slice none 0 0, .bool false, _, .slice none 0 0].toArray 26 (0, 0))] :: [(b_2, .cells [.int .i64 0, .slice ct14.sa (sT (T.at 0)).length ct14.sc, .bool (T.at 0).nul, .slice ct14.la 0 ct14.lc, .slice ct14.ua 0 ct14.uc, .int .i64 0, .slice ct22.sa (sT (T.at 1)).length ct22.sc, .bool (T.at 1).nul, .slice ct22.la 0 ct22.lc, .slice ct22.ua 0 ct22.uc, .int .i64 (IntKind.i32.wrap (T.at 2).n), .slice none 0 0, .bool false, .slice none 0 0, .slice none 0 0, .int .i64 (IntKind.i32.wrap (T.at 3).n), .slice none 0 0, .bool false, .slice none 0 0, .slice none 0 0, .int .i64 (IntKind.i32.wrap (T.at 4).n), .slice none 0 0, .bool false, .slice none 0 0, .slice none 0 0, .int .i64 (IntKind.i32.wrap (T.at 5).n), .slice none 0 0, .bool false, .slice none 0 0, .slice none 0 0, .int .i64 (IntKind.i32.wrap (T.at 6).n), .slice none 0 0, .bool false, .slice none 0 0, .slice none 0 0, .int .i64 (IntKind.i32.wrap (T.at 7).n), .slice none 0 0, .bool false, .slice none 0 0, .slice none 0 0, .int .i64 (IntKind.i8.wrap (T.at 8).n), .slice none 0 0, .bool false, .slice none 0 0, .slice none 0 0, .int .i64 (if (decide ((T.at 9).n % 2 = 1)) = true then 1 else 0), .slice none 0 0, .bool false, .slice none 0 0, .slice none 0 0, .int .i64 0, .slice none 0 0, .bool a10.isNone, .slice al10 ml10 cl10, .slice none 0 0, .int .i64 0, .slice none 0 0, .bool false, .slice none 0 0, .slice none 0 0].toArray 26 (0, 0))] :: [(b_1, .cells [.int .i64 0, .slice none 0 0, .bool false, .slice none 0 0, .slice none 0 0].toArray 26 (0, 0))] :: L = L' ∧ Row 26 5 al10 ml10 cl10 (es10.flatMap f5) Nl10 ∧ ml10 = es10.length ∧ es10.map (·.2) = ((lT (T.at 10)).take k10).map tl_ShareFetchRequestTopic ∧ (∀ p : EE, p ∈ es10 → TreeAt H' p.1 p.2)) [(0, .pointer (some ⟨b, o, none⟩)), (2, .pointer (some ⟨b_1, 0, none⟩)), (3, .pointer (some ⟨b_3, 0, none⟩)), (108, .int .i64 ((lT (T.at 10)).length : Int))] (fun k10 l' H' L' h => ?_) (by omega) rfl (.cons rfl (.cons rfl (.cons rfl (.cons rfl (.nil _))))) ⟨none, 0, 0, [], [], rfl, rfl, (Row.nil _ _), rfl, (by simp), (fun p hp => by cases hp)⟩ rfl rfl rfl rfl rfl (fun k10 l' H' L' hk10 le_7 hI => ?_) (fun l' H' L' le_8 hI => ?_)
  · obtain ⟨al10, ml10, cl10, es10, Nl10, rfl, _⟩ := h; exact ⟨rfl, rfl, rfl, rfl⟩
  · skip
    obtain ⟨al10, ml10, cl10, es10, Nl10, rfl, rfl, pk100, pk101, pk102, pk103⟩ := hI
    refine sr ?_
    refine mv rfl rfl ?_
    refine asg rfl rfl ?_
    refine nl ?_
    refine sq ?_
    refine rgD 4 .nil mixed ?_
    refine dE 0 (by kernel_rfl) rfl ?_
    refine al Tryd.zeroValue4 rfl rfl (fun b_9 => ?_)
    refine dN .nil (Fz.le.refl _) ?_
    refine dE2 1 2 (by kernel_rfl) rfl rfl ?_ ?_
    · skip
      refine st Tryd.sizeOf4 rfl rfl rfl rfl .head ?_
      refine dN .nil (Fz.le.refl _) ?_
      refine dE 2 (by kernel_rfl) rfl ?_
      refine st Tryd.sizeOf4 rfl rfl rfl rfl .head ?_
      refine dN .nil (Fz.le.refl _) ?_
      refine dE 3 (by kernel_rfl) rfl ?_
      refine ld (Says.own .head) Tryd.isAgg4 rfl (Nat.zero_add _).symm rfl rfl ?_
      refine dN .nil (Fz.le.refl _) ?_
      refine dD (by kernel_rfl) ?_
      refine drN .head ?_
      refine Nt ?_
      refine cF rfl ?_
      refine rgD 18 (.skip (.keep (.keep (.keep .nil)))) mixed ?_
      refine dT 0 rfl rfl rfl (by kernel_rfl) (fun _ _ _ h => h) (y_fa0 F26_3 rfl) (.skip (.keep (.keep (.keep .nil)))) (Fz.le.refl _) ?_
      refine dT 1 rfl rfl rfl (by kernel_rfl) (fun _ _ _ h => h) (y_ld (Says.own .head) Tryd.isAgg23 rfl (Nat.zero_add _).symm rfl) (.skip (.keep (.keep (.keep .nil)))) (Fz.le.refl _) ?_
      refine dT 2 rfl rfl rfl (by kernel_rfl) (fun _ _ _ h => h) (y_fa0 F26_3 rfl) (.skip (.keep (.keep (.keep .nil)))) (Fz.le.refl _) ?_
      refine dT 3 rfl rfl rfl (by kernel_rfl) (fun _ _ _ h => h) (y_ld (Says.own .head) Tryd.isAgg23 rfl (Nat.zero_add _).symm rfl) (.skip (.keep (.keep (.keep .nil)))) (Fz.le.refl _) ?_
      refine dT 4 rfl rfl rfl (by kernel_rfl) (fun _ _ _ h => h) (y_ix2 (j := 10) Tryd.runUnderlying23 Tryd.sizeOf26 rfl rfl rfl rfl (by decide)) (.skip (.keep (.keep (.keep .nil)))) (Fz.le.refl _) ?_
      refine dT 5 rfl rfl rfl (by kernel_rfl) (fun _ _ _ h => h) (y_fa F26_3 rfl) (.skip (.keep (.keep (.keep .nil)))) (Fz.le.refl _) ?_
      refine dT 6 rfl rfl rfl (by kernel_rfl) (fun _ _ _ h => h) (y_ld (Says.own (.tail .head)) Tryd.isAgg23 rfl (Nat.zero_add _).symm rfl) (.skip (.keep (.keep (.keep .nil)))) (Fz.le.refl _) ?_
      refine dT 7 rfl rfl rfl (by kernel_rfl) (fun _ _ _ h => h) (y_mv rfl) (.skip (.keep (.keep (.keep .nil)))) (Fz.le.refl _) ?_
      refine dT 8 rfl rfl rfl (by kernel_rfl) (fun _ _ _ h => h) (y_nc rfl) (.skip (.keep (.keep (.keep .nil)))) (Fz.le.refl _) ?_
      refine dT 9 rfl rfl rfl (by kernel_rfl) (fun _ _ _ h => h) (y_fa F181_11 rfl) (.skip (.keep (.keep (.keep .nil)))) (Fz.le.refl _) ?_
      refine dT 10 rfl rfl rfl (by kernel_rfl) (fun _ _ _ h => h) (y_ld (j := 11) (Says.fz (hb.mono (le_4.trans (le_5.trans le_7)))) Tryd.isAgg178 rfl rfl rfl) (.skip (.keep (.keep (.keep .nil)))) (Fz.le.refl _) ?_
      refine dT 11 rfl rfl rfl (by kernel_rfl) (fun _ _ _ h => h) (y_mv rfl) (.skip (.keep (.keep (.keep .nil)))) (Fz.le.refl _) ?_
      obtain ⟨beq_10, oeq_10, haq_10, hlq_10⟩ := ((h3.mono At_ShareFetchRequestTopic.mono (le_4.trans (le_5.trans le_7)))).rows.at_ (ne_nil_of_lt hk10)
      obtain ⟨ceq_10, hAq_10, hbq_10⟩ := hlq_10 k10 hk10
      refine dT 12 rfl rfl rfl (by kernel_rfl) (fun _ _ _ h => h) (y_ixk (j := k10) Tryd.runUnderlying178 Tryd.sizeOf186 rfl haq_10 rfl rfl hk10) (.skip (.keep (.keep (.keep .nil)))) (Fz.le.refl _) ?_
      refine dE 13 (by kernel_rfl) rfl ?_
      refine cl rfl rfl rfl (te_ShareFetchRequestTopic hbq_10 (At_ShareFetchRequestTopic.mono _ _ _ _ (Fz.le.refl _) hAq_10) ((hf.at 10).lTel (List.getElem_mem hk10))) rfl (fun v_ H1 L1 le_11 hR_ => ?_)
      obtain ⟨rfl, ct145, rfl, hT145⟩ := hR_
      refine dN (.skip (.keep (.keep (.keep .nil)))) le_11 ?_
      refine dE 14 (by kernel_rfl) rfl ?_
      refine bs' L23 rfl rfl rfl rfl (fun b_12 => ?_)
      refine dN (.skip (.skip (.keep (.keep (.keep .nil))))) le_11 ?_
      refine dE 15 (by kernel_rfl) rfl ?_
      have hmk : ml10 = k10 := by have h1 := congrArg List.length pk102; rw [List.length_map, List.length_map, List.length_take] at h1; omega
      have hmb := (hf.at 10).lTl
      refine ap (k := 1) (news := f5 ((ct145, tl_ShareFetchRequestTopic (lT (T.at 10))[k10]) : EE)) Tryd.underlying23 I26 rfl rfl pk100 (fun _ => (.tail .head)) (src_says Tryd.underlying23 rfl (fun _ => Says.own .head) (f5_one _)) (by omega) (by unfold maxLen; omega) rfl (fun a147 c147 N147 r147 z147 => ?_)
      rw [flatMap_snoc'] at r147
      refine dN (.skip (.skip (.keep (.keep (.keep .nil))))) le_11 ?_
      refine dE 16 (by kernel_rfl) rfl ?_
      refine ixk (j := 10) Tryd.runUnderlying23 Tryd.sizeOf26 rfl rfl rfl rfl (by decide) rfl ?_
      refine dN (.skip (.skip (.keep (.keep (.keep .nil))))) le_11 ?_
      refine dT 17 rfl rfl rfl (by kernel_rfl) (fun _ _ _ h => h) (y_fa F26_3 rfl) (.skip (.skip (.keep (.keep (.keep .nil))))) le_11 ?_
      refine dE 18 (by kernel_rfl) rfl ?_
      refine st Tryd.sizeOf23 rfl rfl rfl rfl (.tail (.tail (.tail .head))) ?_
      refine dNk (by kernel_rfl) ?_
      refine dD (by kernel_rfl) ?_
      refine Nb ?_
      refine drN .head ?_
      refine fun a_ w_ hA hw => ⟨_, _, _, hA.sub ?_, (le_7.trans le_11), hw, _, rfl, a147, (ml10 + 1), c147, (es10 ++ [((ct145, tl_ShareFetchRequestTopic (lT (T.at 10))[k10]) : EE)]), N147, rfl, rfl, r147, (by simp; omega), (map_take_snoc (g := tl_ShareFetchRequestTopic) hk10 pk102), (fun p hp => (mem_snoc hp).elim (fun h => (pk103 p h).mono le_11) (fun h => h ▸ hT145))⟩
      exact (.cons rfl (.cons rfl (.cons rfl (.cons rfl (.cons rfl (.nil _))))))
    · skip
      refine st Tryd.sizeOf4 rfl rfl rfl rfl .head ?_
      refine dN .nil (Fz.le.refl _) ?_
      refine dE 1 (by kernel_rfl) rfl ?_
      refine st Tryd.sizeOf4 rfl rfl rfl rfl .head ?_
      refine dN .nil (Fz.le.refl _) ?_
      refine dE 3 (by kernel_rfl) rfl ?_
      refine ld (Says.own .head) Tryd.isAgg4 rfl (Nat.zero_add _).symm rfl rfl ?_
      refine dN .nil (Fz.le.refl _) ?_
      refine dD (by kernel_rfl) ?_
      refine drN .head ?_
      refine Nt ?_
      refine cT rfl ?_
      refine sq ?_
      refine rgD 17 (.skip (.keep (.keep (.keep .nil)))) mixed ?_
      refine dT 0 rfl rfl rfl (by kernel_rfl) (fun _ _ _ h => h) (y_fa0 F26_3 rfl) (.skip (.keep (.keep (.keep .nil)))) (Fz.le.refl _) ?_
      refine dT 1 rfl rfl rfl (by kernel_rfl) (fun _ _ _ h => h) (y_ld (Says.own .head) Tryd.isAgg23 rfl (Nat.zero_add _).symm rfl) (.skip (.keep (.keep (.keep .nil)))) (Fz.le.refl _) ?_
      refine dT 2 rfl rfl rfl (by kernel_rfl) (fun _ _ _ h => h) (y_ix2 (j := 10) Tryd.runUnderlying23 Tryd.sizeOf26 rfl rfl rfl rfl (by decide)) (.skip (.keep (.keep (.keep .nil)))) (Fz.le.refl _) ?_
      refine dT 3 rfl rfl rfl (by kernel_rfl) (fun _ _ _ h => h) (y_fa F26_3 rfl) (.skip (.keep (.keep (.keep .nil)))) (Fz.le.refl _) ?_
      refine dT 4 rfl rfl rfl (by kernel_rfl) (fun _ _ _ h => h) (y_ld (Says.own (.tail .head)) Tryd.isAgg23 rfl (Nat.zero_add _).symm rfl) (.skip (.keep (.keep (.keep .nil)))) (Fz.le.refl _) ?_
      refine dT 5 rfl rfl rfl (by kernel_rfl) (fun _ _ _ h => h) (y_mv rfl) (.skip (.keep (.keep (.keep .nil)))) (Fz.le.refl _) ?_
      refine dT 6 rfl rfl rfl (by kernel_rfl) (fun _ _ _ h => h) (y_nc rfl) (.skip (.keep (.keep (.keep .nil)))) (Fz.le.refl _) ?_
      refine dT 7 rfl rfl rfl (by kernel_rfl) (fun _ _ _ h => h) (y_fa F181_11 rfl) (.skip (.keep (.keep (.keep .nil)))) (Fz.le.refl _) ?_
      refine dT 8 rfl rfl rfl (by kernel_rfl) (fun _ _ _ h => h) (y_ld (j := 11) (Says.fz (hb.mono (le_4.trans (le_5.trans le_7)))) Tryd.isAgg178 rfl rfl rfl) (.skip (.keep (.keep (.keep .nil)))) (Fz.le.refl _) ?_
      refine dT 9 rfl rfl rfl (by kernel_rfl) (fun _ _ _ h => h) (y_mv rfl) (.skip (.keep (.keep (.keep .nil)))) (Fz.le.refl _) ?_
      obtain ⟨beq_13, oeq_13, haq_13, hlq_13⟩ := ((h3.mono At_ShareFetchRequestTopic.mono (le_4.trans (le_5.trans le_7)))).rows.at_ (ne_nil_of_lt hk10)
      obtain ⟨ceq_13, hAq_13, hbq_13⟩ := hlq_13 k10 hk10
      refine dT 10 rfl rfl rfl (by kernel_rfl) (fun _ _ _ h => h) (y_ixk (j := k10) Tryd.runUnderlying178 Tryd.sizeOf186 rfl haq_13 rfl rfl hk10) (.skip (.keep (.keep (.keep .nil)))) (Fz.le.refl _) ?_
      refine dT 12 rfl rfl rfl (by kernel_rfl) (fun _ _ _ h => h) (y_ls Tryd.runUnderlying23 rfl) (.skip (.keep (.keep (.keep .nil)))) (Fz.le.refl _) ?_
      refine dE2 11 13 (by kernel_rfl) rfl rfl ?_ ?_
      · skip
        refine cl rfl rfl rfl (te_ShareFetchRequestTopic hbq_13 (At_ShareFetchRequestTopic.mono _ _ _ _ (Fz.le.refl _) hAq_13) ((hf.at 10).lTel (List.getElem_mem hk10))) rfl (fun v_ H1 L1 le_14 hR_ => ?_)
        obtain ⟨rfl, ct125, rfl, hT125⟩ := hR_
        refine dN (.skip (.keep (.keep (.keep .nil)))) le_14 ?_
        refine dE 13 (by kernel_rfl) rfl ?_
        refine bs' L23 rfl rfl rfl rfl (fun b_15 => ?_)
        refine dN (.skip (.skip (.keep (.keep (.keep .nil))))) le_14 ?_
        refine dE 14 (by kernel_rfl) rfl ?_
        have hmk : ml10 = k10 := by have h1 := congrArg List.length pk102; rw [List.length_map, List.length_map, List.length_take] at h1; omega
        have hmb := (hf.at 10).lTl
        refine ap (k := 1) (news := f5 ((TC.none, Tr.none) : EE)) Tryd.underlying23 I26 rfl rfl pk100 (fun _ => (.tail .head)) (src_says Tryd.underlying23 rfl (fun _ => Says.own .head) (f5_one _)) (by omega) (by unfold maxLen; omega) rfl (fun a128 c128 N128 r128 z128 => ?_)
        refine dN (.skip (.skip (.keep (.keep (.keep .nil))))) le_14 ?_
        refine dE 15 (by kernel_rfl) rfl ?_
        refine ixk (j := 10) Tryd.runUnderlying23 Tryd.sizeOf26 rfl rfl rfl rfl (by decide) rfl ?_
        refine dN (.skip (.skip (.keep (.keep (.keep .nil))))) le_14 ?_
        refine dT 16 rfl rfl rfl (by kernel_rfl) (fun _ _ _ h => h) (y_fa F26_3 rfl) (.skip (.skip (.keep (.keep (.keep .nil))))) le_14 ?_
        refine dE 17 (by kernel_rfl) rfl ?_
        refine st Tryd.sizeOf23 rfl rfl rfl rfl (.tail (.tail (.tail .head))) ?_
        refine dNk (by kernel_rfl) ?_
        refine dD (by kernel_rfl) ?_
        refine Nt ?_
        refine rg ?_
        obtain ⟨gg128, hgg128⟩ := r128.addr (by omega)
        refine ixk (j := ml10) Tryd.runUnderlying23 Tryd.sizeOf26 rfl hgg128 rfl rfl (by omega) rfl ?_
        refine sR (ds := f5 ((ct125, tl_ShareFetchRequestTopic (lT (T.at 10))[k10]) : EE)) r128 hgg128 (fun _ => (.tail .head)) Tryd.sizeOf26 rfl rfl rfl rfl (by omega) (fun N128b r128b => ?_)
        rw [row_put (k := 5) (m := ml10) (A := es10.flatMap f5) (by rw [flatMap_len f5 5 f5_len, pk101]) rfl, flatMap_snoc'] at r128b
        refine nN ?_
        refine Nb ?_
        refine drN .head ?_
        refine fun a_ w_ hA hw => ⟨_, _, _, hA.sub ?_, (le_7.trans le_14), hw, _, rfl, a128, (ml10 + 1), c128, (es10 ++ [((ct125, tl_ShareFetchRequestTopic (lT (T.at 10))[k10]) : EE)]), N128b, rfl, rfl, r128b, (by simp; omega), (map_take_snoc (g := tl_ShareFetchRequestTopic) hk10 pk102), (fun p hp => (mem_snoc hp).elim (fun h => (pk103 p h).mono le_14) (fun h => h ▸ hT125))⟩
        exact (.cons rfl (.cons rfl (.cons rfl (.cons rfl (.cons rfl (.nil _))))))
      · skip
        refine bs' L23 rfl rfl rfl rfl (fun b_16 => ?_)
        refine dN (.skip (.skip (.keep (.keep (.keep .nil))))) (Fz.le.refl _) ?_
        refine dE 11 (by kernel_rfl) rfl ?_
        refine cl rfl rfl rfl (te_ShareFetchRequestTopic hbq_13 (At_ShareFetchRequestTopic.mono _ _ _ _ (Fz.le.refl _) hAq_13) ((hf.at 10).lTel (List.getElem_mem hk10))) rfl (fun v_ H1 L1 le_17 hR_ => ?_)
        obtain ⟨rfl, ct125, rfl, hT125⟩ := hR_
        refine dN (.skip (.skip (.keep (.keep (.keep .nil))))) le_17 ?_
        refine dE 14 (by kernel_rfl) rfl ?_
        have hmk : ml10 = k10 := by have h1 := congrArg List.length pk102; rw [List.length_map, List.length_map, List.length_take] at h1; omega
        have hmb := (hf.at 10).lTl
        refine ap (k := 1) (news := f5 ((TC.none, Tr.none) : EE)) Tryd.underlying23 I26 rfl rfl pk100 (fun _ => (.tail .head)) (src_says Tryd.underlying23 rfl (fun _ => Says.own .head) (f5_one _)) (by omega) (by unfold maxLen; omega) rfl (fun a128 c128 N128 r128 z128 => ?_)
        refine dN (.skip (.skip (.keep (.keep (.keep .nil))))) le_17 ?_
        refine dE 15 (by kernel_rfl) rfl ?_
        refine ixk (j := 10) Tryd.runUnderlying23 Tryd.sizeOf26 rfl rfl rfl rfl (by decide) rfl ?_
        refine dN (.skip (.skip (.keep (.keep (.keep .nil))))) le_17 ?_
        refine dT 16 rfl rfl rfl (by kernel_rfl) (fun _ _ _ h => h) (y_fa F26_3 rfl) (.skip (.skip (.keep (.keep (.keep .nil))))) le_17 ?_
        refine dE 17 (by kernel_rfl) rfl ?_
        refine st Tryd.sizeOf23 rfl rfl rfl rfl (.tail (.tail (.tail .head))) ?_
        refine dNk (by kernel_rfl) ?_
        refine dD (by kernel_rfl) ?_
        refine Nt ?_
        refine rg ?_
        obtain ⟨gg128, hgg128⟩ := r128.addr (by omega)
        refine ixk (j := ml10) Tryd.runUnderlying23 Tryd.sizeOf26 rfl hgg128 rfl rfl (by omega) rfl ?_
        refine sR (ds := f5 ((ct125, tl_ShareFetchRequestTopic (lT (T.at 10))[k10]) : EE)) r128 hgg128 (fun _ => (.tail .head)) Tryd.sizeOf26 rfl rfl rfl rfl (by omega) (fun N128b r128b => ?_)
        rw [row_put (k := 5) (m := ml10) (A := es10.flatMap f5) (by rw [flatMap_len f5 5 f5_len, pk101]) rfl, flatMap_snoc'] at r128b
        refine nN ?_
        refine Nb ?_
        refine drN .head ?_
        refine fun a_ w_ hA hw => ⟨_, _, _, hA.sub ?_, (le_7.trans le_17), hw, _, rfl, a128, (ml10 + 1), c128, (es10 ++ [((ct125, tl_ShareFetchRequestTopic (lT (T.at 10))[k10]) : EE)]), N128b, rfl, rfl, r128b, (by simp; omega), (map_take_snoc (g := tl_ShareFetchRequestTopic) hk10 pk102), (fun p hp => (mem_snoc hp).elim (fun h => (pk103 p h).mono le_17) (fun h => h ▸ hT125))⟩
        exact (.cons rfl (.cons rfl (.cons rfl (.cons rfl (.cons rfl (.nil _))))))
  · skip
    obtain ⟨al10, ml10, cl10, es10, Nl10, rfl, rfl, pk100, pk101, pk102, pk103⟩ := hI
    refine toWp ?_
    have hes10 : es10.map (·.2) = (lT (T.at 10)).map tl_ShareFetchRequestTopic := by rw [pk102, List.take_length]
    have hm10 : ml10 = ((lT (T.at 10)).map tl_ShareFetchRequestTopic).length := by rw [← hes10, List.length_map]; exact pk101
    refine frW pk100 .head (fun Hl10 hll10 hzl10 => ?_)
    have ht10 := TreesAt.row hzl10 pk101 pk100.le.1 (by have h1 := congrArg List.length hes10; rw [List.length_map, List.length_map] at h1; unfold B47; omega) (fun p hp => (pk103 p hp).mono hll10)
    rw [hes10] at ht10
    subst hm10
    refine sq ?_
    refine rgD 9 (.keep (.keep (.keep .nil))) mixed ?_
    refine dT 0 rfl rfl rfl (by kernel_rfl) (fun _ _ _ h => h) (y_fa0 F26_3 rfl) (.keep (.keep (.keep .nil))) (Fz.le.refl _) ?_
    refine dT 1 rfl rfl rfl (by kernel_rfl) (fun _ _ _ h => h) (y_ld (Says.own .head) Tryd.isAgg23 rfl (Nat.zero_add _).symm rfl) (.keep (.keep (.keep .nil))) (Fz.le.refl _) ?_
    refine dT 2 rfl rfl rfl (by kernel_rfl) (fun _ _ _ h => h) (y_mv rfl) (.keep (.keep (.keep .nil))) (Fz.le.refl _) ?_
    refine dT 3 rfl rfl rfl (by kernel_rfl) (fun _ _ _ h => h) (y_nc rfl) (.keep (.keep (.keep .nil))) (Fz.le.refl _) ?_
    refine dT 4 rfl rfl rfl (by kernel_rfl) (fun _ _ _ h => h) (y_fa F181_12 rfl) (.keep (.keep (.keep .nil))) (Fz.le.refl _) ?_
    refine dT 5 rfl rfl rfl (by kernel_rfl) (fun _ _ _ h => h) (y_ld (j := 12) (Says.fz (hb.mono (le_4.trans (le_5.trans (le_8.trans hll10))))) Tryd.isAgg179 rfl rfl rfl) (.keep (.keep (.keep .nil))) (Fz.le.refl _) ?_
    refine dT 6 rfl rfl rfl (by kernel_rfl) (fun _ _ _ h => h) (y_esn Tryd.underlying179 rfl) (.keep (.keep (.keep .nil))) (Fz.le.refl _) ?_
    refine dE 7 (by kernel_rfl) rfl ?_
    refine ixk (j := 11) Tryd.runUnderlying23 Tryd.sizeOf26 rfl rfl rfl rfl (by decide) rfl ?_
    refine dN (.keep (.keep (.keep .nil))) (Fz.le.refl _) ?_
    refine dT 8 rfl rfl rfl (by kernel_rfl) (fun _ _ _ h => h) (y_fa F26_2 rfl) (.keep (.keep (.keep .nil))) (Fz.le.refl _) ?_
    refine dE 9 (by kernel_rfl) rfl ?_
    refine st Tryd.sizeOf4 rfl rfl rfl rfl (.tail .head) ?_
    refine dNk (by kernel_rfl) ?_
    refine dD (by kernel_rfl) ?_
    refine Nt ?_
    refine sq ?_
    refine sr ?_
    refine mv rfl rfl ?_
    refine nc rfl rfl ?_
    refine fa F181_12 rfl rfl ?_
    refine ld (Says.fz (hb.mono (le_4.trans (le_5.trans (le_8.trans hll10))))) Tryd.isAgg179 rfl rfl rfl rfl ?_
    refine ls Tryd.runUnderlying179 rfl rfl ?_
    refine mv rfl rfl ?_
    refine nl ?_
    have hlm11 := (hf.at 11).lTl
    refine nulC2 ?_
    refine fr ((lT (T.at 11)).length) (fun k11 l' H' L' => ∃ (al11 : Option Addr), ∃ (ml11 : Nat), ∃ (cl11 : Nat), ∃ (es11 : List EE), ∃ (Nl11 : Chunk), [(0, .pointer (some ⟨b, o, none⟩)), (2, .pointer (some ⟨b_1, 0, none⟩)), (3, .pointer (some ⟨b_3, 0, none⟩)), (164, .int .i64 ((lT (T.at 11)).length : Int))] = l' ∧ Nl11 :: [(b_3, .cells [.int .i64 0, .slice none 0 0, .bool false, _, .slice none 0 0].toArray 26 (0, 0))] :: [(b_2, .cells [.int .i64 0, .slice ct14.sa (sT (T.at 0)).length ct14.sc, .bool (T.at 0).nul, .slice ct14.la 0 ct14.lc, .slice ct14.ua 0 ct14.uc, .int .i64 0, .slice ct22.sa (sT (T.at 1)).length ct22.sc, .bool (T.at 1).nul, .slice ct22.la 0 ct22.lc, .slice ct22.ua 0 ct22.uc, .int .i64 (IntKind.i32.wrap (T.at 2).n), .slice none 0 0, .bool false, .slice none 0 0, .slice none 0 0, .int .i64 (IntKind.i32.wrap (T.at 3).n), .slice none 0 0, .bool false, .slice none 0 0, .slice none 0 0, .int .i64 (IntKind.i32.wrap (T.at 4).n), .slice none 0 0, .bool false, .slice none 0 0, .slice none 0 0, .int .i64 (IntKind.i32.wrap (T.at 5).n), .slice none 0 0, .bool false, .slice none 0 0, .slice none 0 0, .int .i64 (IntKind.i32.wrap (T.at 6).n), .slice none 0 0, .bool false, .slice none 0 0, .slice none 0 0, .int .i64 (IntKind.i32.wrap (T.at 7).n), .slice none 0 0, .bool false, .slice none 0 0, .slice none 0 0, .int .i64 (IntKind.i8.wrap (T.at 8).n), .slice none 0 0, .bool false, .slice none 0 0, .slice none 0 0, .int .i64 (if (decide ((T.at 9).n % 2 = 1)) = true then 1 else 0), .slice none 0 0, .bool false, .slice none 0 0, .slice none 0 0, .int .i64 0, .slice none 0 0, .bool a10.isNone, .slice al10 ((lT (T.at 10)).map tl_ShareFetchRequestTopic).length cl10, .slice none 0 0, .int .i64 0, .slice none 0 0, .bool a11.isNone, .slice al11 ml11 cl11, .slice none 0 0].toArray 26 (0, 0))] :: [(b_1, .cells [.int .i64 0, .slice none 0 0, .bool false, .slice none 0 0, .slice none 0 0].toArray 26 (0, 0))] :: L = L' ∧ Row 26 5 al11 ml11 cl11 (es11.flatMap f5) Nl11 ∧ ml11 = es11.length ∧ es11.map (·.2) = ((lT (T.at 11)).take k11).map tl_ShareFetchRequestForgottenTopicsData ∧ (∀ p : EE, p ∈ es11 → TreeAt H' p.1 p.2)) [(0, .pointer (some ⟨b, o, none⟩)), (2, .pointer (some ⟨b_1, 0, none⟩)), (3, .pointer (some ⟨b_3, 0, none⟩)), (164, .int .i64 ((lT (T.at 11)).length : Int))] (fun k11 l' H' L' h => ?_) (by omega) rfl (.cons rfl (.cons rfl (.cons rfl (.cons rfl (.nil _))))) ⟨none, 0, 0, [], [], rfl, rfl, (Row.nil _ _), rfl, (by simp), (fun p hp => by cases hp)⟩ rfl rfl rfl rfl rfl (fun k11 l' H' L' hk11 le_18 hI => ?_) (fun l' H' L' le_19 hI => ?_)
    · obtain ⟨al11, ml11, cl11, es11, Nl11, rfl, _⟩ := h; exact ⟨rfl, rfl, rfl, rfl⟩
    · skip
      obtain ⟨al11, ml11, cl11, es11, Nl11, rfl, rfl, pk110, pk111, pk112, pk113⟩ := hI
      refine sr ?_
      refine mv rfl rfl ?_
      refine asg rfl rfl ?_
      refine nl ?_
      refine sq ?_
      refine rgD 4 .nil mixed ?_
      refine dE 0 (by kernel_rfl) rfl ?_
      refine al Tryd.zeroValue4 rfl rfl (fun b_20 => ?_)
      refine dN .nil (Fz.le.refl _) ?_
      refine dE2 1 2 (by kernel_rfl) rfl rfl ?_ ?_
      · skip
        refine st Tryd.sizeOf4 rfl rfl rfl rfl .head ?_
        refine dN .nil (Fz.le.refl _) ?_
        refine dE 2 (by kernel_rfl) rfl ?_
        refine st Tryd.sizeOf4 rfl rfl rfl rfl .head ?_
        refine dN .nil (Fz.le.refl _) ?_
        refine dE 3 (by kernel_rfl) rfl ?_
        refine ld (Says.own .head) Tryd.isAgg4 rfl (Nat.zero_add _).symm rfl rfl ?_
        refine dN .nil (Fz.le.refl _) ?_
        refine dD (by kernel_rfl) ?_
        refine drN .head ?_
        refine Nt ?_
        refine cF rfl ?_
        refine rgD 18 (.skip (.keep (.keep (.keep .nil)))) mixed ?_
        refine dT 0 rfl rfl rfl (by kernel_rfl) (fun _ _ _ h => h) (y_fa0 F26_3 rfl) (.skip (.keep (.keep (.keep .nil)))) (Fz.le.refl _) ?_
        refine dT 1 rfl rfl rfl (by kernel_rfl) (fun _ _ _ h => h) (y_ld (Says.own .head) Tryd.isAgg23 rfl (Nat.zero_add _).symm rfl) (.skip (.keep (.keep (.keep .nil)))) (Fz.le.refl _) ?_
        refine dT 2 rfl rfl rfl (by kernel_rfl) (fun _ _ _ h => h) (y_fa0 F26_3 rfl) (.skip (.keep (.keep (.keep .nil)))) (Fz.le.refl _) ?_
        refine dT 3 rfl rfl rfl (by kernel_rfl) (fun _ _ _ h => h) (y_ld (Says.own .head) Tryd.isAgg23 rfl (Nat.zero_add _).symm rfl) (.skip (.keep (.keep (.keep .nil)))) (Fz.le.refl _) ?_
        refine dT 4 rfl rfl rfl (by kernel_rfl) (fun _ _ _ h => h) (y_ix2 (j := 11) Tryd.runUnderlying23 Tryd.sizeOf26 rfl rfl rfl rfl (by decide)) (.skip (.keep (.keep (.keep .nil)))) (Fz.le.refl _) ?_
        refine dT 5 rfl rfl rfl (by kernel_rfl) (fun _ _ _ h => h) (y_fa F26_3 rfl) (.skip (.keep (.keep (.keep .nil)))) (Fz.le.refl _) ?_
        refine dT 6 rfl rfl rfl (by kernel_rfl) (fun _ _ _ h => h) (y_ld (Says.own (.tail .head)) Tryd.isAgg23 rfl (Nat.zero_add _).symm rfl) (.skip (.keep (.keep (.keep .nil)))) (Fz.le.refl _) ?_
        refine dT 7 rfl rfl rfl (by kernel_rfl) (fun _ _ _ h => h) (y_mv rfl) (.skip (.keep (.keep (.keep .nil)))) (Fz.le.refl _) ?_
        refine dT 8 rfl rfl rfl (by kernel_rfl) (fun _ _ _ h => h) (y_nc rfl) (.skip (.keep (.keep (.keep .nil)))) (Fz.le.refl _) ?_
        refine dT 9 rfl rfl rfl (by kernel_rfl) (fun _ _ _ h => h) (y_fa F181_12 rfl) (.skip (.keep (.keep (.keep .nil)))) (Fz.le.refl _) ?_
        refine dT 10 rfl rfl rfl (by kernel_rfl) (fun _ _ _ h => h) (y_ld (j := 12) (Says.fz (hb.mono (le_4.trans (le_5.trans (le_8.trans (hll10.trans le_18)))))) Tryd.isAgg179 rfl rfl rfl) (.skip (.keep (.keep (.keep .nil)))) (Fz.le.refl _) ?_
        refine dT 11 rfl rfl rfl (by kernel_rfl) (fun _ _ _ h => h) (y_mv rfl) (.skip (.keep (.keep (.keep .nil)))) (Fz.le.refl _) ?_
        obtain ⟨beq_21, oeq_21, haq_21, hlq_21⟩ := ((h4.mono At_ShareFetchRequestForgottenTopicsData.mono (le_4.trans (le_5.trans (le_8.trans (hll10.trans le_18)))))).rows.at_ (ne_nil_of_lt hk11)
        obtain ⟨ceq_21, hAq_21, hbq_21⟩ := hlq_21 k11 hk11
        refine dT 12 rfl rfl rfl (by kernel_rfl) (fun _ _ _ h => h) (y_ixk (j := k11) Tryd.runUnderlying179 Tryd.sizeOf191 rfl haq_21 rfl rfl hk11) (.skip (.keep (.keep (.keep .nil)))) (Fz.le.refl _) ?_
        refine dE 13 (by kernel_rfl) rfl ?_
        refine cl rfl rfl rfl (te_ShareFetchRequestForgottenTopicsData hbq_21 (At_ShareFetchRequestForgottenTopicsData.mono _ _ _ _ (Fz.le.refl _) hAq_21) ((hf.at 11).lTel (List.getElem_mem hk11))) rfl (fun v_ H1 L1 le_22 hR_ => ?_)
        obtain ⟨rfl, ct201, rfl, hT201⟩ := hR_
        refine dN (.skip (.keep (.keep (.keep .nil)))) le_22 ?_
        refine dE 14 (by kernel_rfl) rfl ?_
        refine bs' L23 rfl rfl rfl rfl (fun b_23 => ?_)
        refine dN (.skip (.skip (.keep (.keep (.keep .nil))))) le_22 ?_
        refine dE 15 (by kernel_rfl) rfl ?_
        have hmk : ml11 = k11 := by have h1 := congrArg List.length pk112; rw [List.length_map, List.length_map, List.length_take] at h1; omega
        have hmb := (hf.at 11).lTl
        refine ap (k := 1) (news := f5 ((ct201, tl_ShareFetchRequestForgottenTopicsData (lT (T.at 11))[k11]) : EE)) Tryd.underlying23 I26 rfl rfl pk110 (fun _ => (.tail .head)) (src_says Tryd.underlying23 rfl (fun _ => Says.own .head) (f5_one _)) (by omega) (by unfold maxLen; omega) rfl (fun a203 c203 N203 r203 z203 => ?_)
        rw [flatMap_snoc'] at r203
        refine dN (.skip (.skip (.keep (.keep (.keep .nil))))) le_22 ?_
        refine dE 16 (by kernel_rfl) rfl ?_
        refine ixk (j := 11) Tryd.runUnderlying23 Tryd.sizeOf26 rfl rfl rfl rfl (by decide) rfl ?_
        refine dN (.skip (.skip (.keep (.keep (.keep .nil))))) le_22 ?_
        refine dT 17 rfl rfl rfl (by kernel_rfl) (fun _ _ _ h => h) (y_fa F26_3 rfl) (.skip (.skip (.keep (.keep (.keep .nil))))) le_22 ?_
        refine dE 18 (by kernel_rfl) rfl ?_
        refine st Tryd.sizeOf23 rfl rfl rfl rfl (.tail (.tail (.tail .head))) ?_
        refine dNk (by kernel_rfl) ?_
        refine dD (by kernel_rfl) ?_
        refine Nb ?_
        refine drN .head ?_
        refine fun a_ w_ hA hw => ⟨_, _, _, hA.sub ?_, (le_18.trans le_22), hw, _, rfl, a203, (ml11 + 1), c203, (es11 ++ [((ct201, tl_ShareFetchRequestForgottenTopicsData (lT (T.at 11))[k11]) : EE)]), N203, rfl, rfl, r203, (by simp; omega), (map_take_snoc (g := tl_ShareFetchRequestForgottenTopicsData) hk11 pk112), (fun p hp => (mem_snoc hp).elim (fun h => (pk113 p h).mono le_22) (fun h => h ▸ hT201))⟩
        exact (.cons rfl (.cons rfl (.cons rfl (.cons rfl (.cons rfl (.nil _))))))
      · skip
        refine st Tryd.sizeOf4 rfl rfl rfl rfl .head ?_
        refine dN .nil (Fz.le.refl _) ?_
        refine dE 1 (by kernel_rfl) rfl ?_
        refine st Tryd.sizeOf4 rfl rfl rfl rfl .head ?_
        refine dN .nil (Fz.le.refl _) ?_
        refine dE 3 (by kernel_rfl) rfl ?_
        refine ld (Says.own .head) Tryd.isAgg4 rfl (Nat.zero_add _).symm rfl rfl ?_
        refine dN .nil (Fz.le.refl _) ?_
        refine dD (by kernel_rfl) ?_
        refine drN .head ?_
        refine Nt ?_
        refine cT rfl ?_
        refine sq ?_
        refine rgD 17 (.skip (.keep (.keep (.keep .nil)))) mixed ?_
        refine dT 0 rfl rfl rfl (by kernel_rfl) (fun _ _ _ h => h) (y_fa0 F26_3 rfl) (.skip (.keep (.keep (.keep .nil)))) (Fz.le.refl _) ?_
        refine dT 1 rfl rfl rfl (by kernel_rfl) (fun _ _ _ h => h) (y_ld (Says.own .head) Tryd.isAgg23 rfl (Nat.zero_add _).symm rfl) (.skip (.keep (.keep (.keep .nil)))) (Fz.le.refl _) ?_
        refine dT 2 rfl rfl rfl (by kernel_rfl) (fun _ _ _ h => h) (y_ix2 (j := 11) Tryd.runUnderlying23 Tryd.sizeOf26 rfl rfl rfl rfl (by decide)) (.skip (.keep (.keep (.keep .nil)))) (Fz.le.refl _) ?_
        refine dT 3 rfl rfl rfl (by kernel_rfl) (fun _ _ _ h => h) (y_fa F26_3 rfl) (.skip (.keep (.keep (.keep .nil)))) (Fz.le.refl _) ?_
        refine dT 4 rfl rfl rfl (by kernel_rfl) (fun _ _ _ h => h) (y_ld (Says.own (.tail .head)) Tryd.isAgg23 rfl (Nat.zero_add _).symm rfl) (.skip (.keep (.keep (.keep .nil)))) (Fz.le.refl _) ?_
        refine dT 5 rfl rfl rfl (by kernel_rfl) (fun _ _ _ h => h) (y_mv rfl) (.skip (.keep (.keep (.keep .nil)))) (Fz.le.refl _) ?_
        refine dT 6 rfl rfl rfl (by kernel_rfl) (fun _ _ _ h => h) (y_nc rfl) (.skip (.keep (.keep (.keep .nil)))) (Fz.le.refl _) ?_
        refine dT 7 rfl rfl rfl (by kernel_rfl) (fun _ _ _ h => h) (y_fa F181_12 rfl) (.skip (.keep (.keep (.keep .nil)))) (Fz.le.refl _) ?_
        refine dT 8 rfl rfl rfl (by kernel_rfl) (fun _ _ _ h => h) (y_ld (j := 12) (Says.fz (hb.mono (le_4.trans (le_5.trans (le_8.trans (hll10.trans le_18)))))) Tryd.isAgg179 rfl rfl rfl) (.skip (.keep (.keep (.keep .nil)))) (Fz.le.refl _) ?_
        refine dT 9 rfl rfl rfl (by kernel_rfl) (fun _ _ _ h => h) (y_mv rfl) (.skip (.keep (.keep (.keep .nil)))) (Fz.le.refl _) ?_
        obtain ⟨beq_24, oeq_24, haq_24, hlq_24⟩ := ((h4.mono At_ShareFetchRequestForgottenTopicsData.mono (le_4.trans (le_5.trans (le_8.trans (hll10.trans le_18)))))).rows.at_ (ne_nil_of_lt hk11)
        obtain ⟨ceq_24, hAq_24, hbq_24⟩ := hlq_24 k11 hk11
        refine dT 10 rfl rfl rfl (by kernel_rfl) (fun _ _ _ h => h) (y_ixk (j := k11) Tryd.runUnderlying179 Tryd.sizeOf191 rfl haq_24 rfl rfl hk11) (.skip (.keep (.keep (.keep .nil)))) (Fz.le.refl _) ?_
        refine dT 12 rfl rfl rfl (by kernel_rfl) (fun _ _ _ h => h) (y_ls Tryd.runUnderlying23 rfl) (.skip (.keep (.keep (.keep .nil)))) (Fz.le.refl _) ?_
        refine dE2 11 13 (by kernel_rfl) rfl rfl ?_ ?_
        · skip
          refine cl rfl rfl rfl (te_ShareFetchRequestForgottenTopicsData hbq_24 (At_ShareFetchRequestForgottenTopicsData.mono _ _ _ _ (Fz.le.refl _) hAq_24) ((hf.at 11).lTel (List.getElem_mem hk11))) rfl (fun v_ H1 L1 le_25 hR_ => ?_)
          obtain ⟨rfl, ct181, rfl, hT181⟩ := hR_
          refine dN (.skip (.keep (.keep (.keep .nil)))) le_25 ?_
          refine dE 13 (by kernel_rfl) rfl ?_
          refine bs' L23 rfl rfl rfl rfl (fun b_26 => ?_)
          refine dN (.skip (.skip (.keep (.keep (.keep .nil))))) le_25 ?_
          refine dE 14 (by kernel_rfl) rfl ?_
          have hmk : ml11 = k11 := by have h1 := congrArg List.length pk112; rw [List.length_map, List.length_map, List.length_take] at h1; omega
          have hmb := (hf.at 11).lTl
          refine ap (k := 1) (news := f5 ((TC.none, Tr.none) : EE)) Tryd.underlying23 I26 rfl rfl pk110 (fun _ => (.tail .head)) (src_says Tryd.underlying23 rfl (fun _ => Says.own .head) (f5_one _)) (by omega) (by unfold maxLen; omega) rfl (fun a184 c184 N184 r184 z184 => ?_)
          refine dN (.skip (.skip (.keep (.keep (.keep .nil))))) le_25 ?_
          refine dE 15 (by kernel_rfl) rfl ?_
          refine ixk (j := 11) Tryd.runUnderlying23 Tryd.sizeOf26 rfl rfl rfl rfl (by decide) rfl ?_
          refine dN (.skip (.skip (.keep (.keep (.keep .nil))))) le_25 ?_
          refine dT 16 rfl rfl rfl (by kernel_rfl) (fun _ _ _ h => h) (y_fa F26_3 rfl) (.skip (.skip (.keep (.keep (.keep .nil))))) le_25 ?_
          refine dE 17 (by kernel_rfl) rfl ?_
          refine st Tryd.sizeOf23 rfl rfl rfl rfl (.tail (.tail (.tail .head))) ?_
          refine dNk (by kernel_rfl) ?_
          refine dD (by kernel_rfl) ?_
          refine Nt ?_
          refine rg ?_
          obtain ⟨gg184, hgg184⟩ := r184.addr (by omega)
          refine ixk (j := ml11) Tryd.runUnderlying23 Tryd.sizeOf26 rfl hgg184 rfl rfl (by omega) rfl ?_
          refine sR (ds := f5 ((ct181, tl_ShareFetchRequestForgottenTopicsData (lT (T.at 11))[k11]) : EE)) r184 hgg184 (fun _ => (.tail .head)) Tryd.sizeOf26 rfl rfl rfl rfl (by omega) (fun N184b r184b => ?_)
          rw [row_put (k := 5) (m := ml11) (A := es11.flatMap f5) (by rw [flatMap_len f5 5 f5_len, pk111]) rfl, flatMap_snoc'] at r184b
          refine nN ?_
          refine Nb ?_
          refine drN .head ?_
          refine fun a_ w_ hA hw => ⟨_, _, _, hA.sub ?_, (le_18.trans le_25), hw, _, rfl, a184, (ml11 + 1), c184, (es11 ++ [((ct181, tl_ShareFetchRequestForgottenTopicsData (lT (T.at 11))[k11]) : EE)]), N184b, rfl, rfl, r184b, (by simp; omega), (map_take_snoc (g := tl_ShareFetchRequestForgottenTopicsData) hk11 pk112), (fun p hp => (mem_snoc hp).elim (fun h => (pk113 p h).mono le_25) (fun h => h ▸ hT181))⟩
          exact (.cons rfl (.cons rfl (.cons rfl (.cons rfl (.cons rfl (.nil _))))))
        · skip
          refine bs' L23 rfl rfl rfl rfl (fun b_27 => ?_)
          refine dN (.skip (.skip (.keep (.keep (.keep .nil))))) (Fz.le.refl _) ?_
          refine dE 11 (by kernel_rfl) rfl ?_
          refine cl rfl rfl rfl (te_ShareFetchRequestForgottenTopicsData hbq_24 (At_ShareFetchRequestForgottenTopicsData.mono _ _ _ _ (Fz.le.refl _) hAq_24) ((hf.at 11).lTel (List.getElem_mem hk11))) rfl (fun v_ H1 L1 le_28 hR_ => ?_)
          obtain ⟨rfl, ct181, rfl, hT181⟩ := hR_
          refine dN (.skip (.skip (.keep (.keep (.keep .nil))))) le_28 ?_
          refine dE 14 (by kernel_rfl) rfl ?_
          have hmk : ml11 = k11 := by have h1 := congrArg List.length pk112; rw [List.length_map, List.length_map, List.length_take] at h1; omega
          have hmb := (hf.at 11).lTl
          refine ap (k := 1) (news := f5 ((TC.none, Tr.none) : EE)) Tryd.underlying23 I26 rfl rfl pk110 (fun _ => (.tail .head)) (src_says Tryd.underlying23 rfl (fun _ => Says.own .head) (f5_one _)) (by omega) (by unfold maxLen; omega) rfl (fun a184 c184 N184 r184 z184 => ?_)
          refine dN (.skip (.skip (.keep (.keep (.keep .nil))))) le_28 ?_
          refine dE 15 (by kernel_rfl) rfl ?_
          refine ixk (j := 11) Tryd.runUnderlying23 Tryd.sizeOf26 rfl rfl rfl rfl (by decide) rfl ?_
          refine dN (.skip (.skip (.keep (.keep (.keep .nil))))) le_28 ?_
          refine dT 16 rfl rfl rfl (by kernel_rfl) (fun _ _ _ h => h) (y_fa F26_3 rfl) (.skip (.skip (.keep (.keep (.keep .nil))))) le_28 ?_
          refine dE 17 (by kernel_rfl) rfl ?_
          refine st Tryd.sizeOf23 rfl rfl rfl rfl (.tail (.tail (.tail .head))) ?_
          refine dNk (by kernel_rfl) ?_
          refine dD (by kernel_rfl) ?_
          refine Nt ?_
          refine rg ?_
          obtain ⟨gg184, hgg184⟩ := r184.addr (by omega)
          refine ixk (j := ml11) Tryd.runUnderlying23 Tryd.sizeOf26 rfl hgg184 rfl rfl (by omega) rfl ?_
          refine sR (ds := f5 ((ct181, tl_ShareFetchRequestForgottenTopicsData (lT (T.at 11))[k11]) : EE)) r184 hgg184 (fun _ => (.tail .head)) Tryd.sizeOf26 rfl rfl rfl rfl (by omega) (fun N184b r184b => ?_)
          rw [row_put (k := 5) (m := ml11) (A := es11.flatMap f5) (by rw [flatMap_len f5 5 f5_len, pk111]) rfl, flatMap_snoc'] at r184b
          refine nN ?_
          refine Nb ?_
          refine drN .head ?_
          refine fun a_ w_ hA hw => ⟨_, _, _, hA.sub ?_, (le_18.trans le_28), hw, _, rfl, a184, (ml11 + 1), c184, (es11 ++ [((ct181, tl_ShareFetchRequestForgottenTopicsData (lT (T.at 11))[k11]) : EE)]), N184b, rfl, rfl, r184b, (by simp; omega), (map_take_snoc (g := tl_ShareFetchRequestForgottenTopicsData) hk11 pk112), (fun p hp => (mem_snoc hp).elim (fun h => (pk113 p h).mono le_28) (fun h => h ▸ hT181))⟩
          exact (.cons rfl (.cons rfl (.cons rfl (.cons rfl (.cons rfl (.nil _))))))
    · skip
      obtain ⟨al11, ml11, cl11, es11, Nl11, rfl, rfl, pk110, pk111, pk112, pk113⟩ := hI
      refine toWp ?_
      have hes11 : es11.map (·.2) = (lT (T.at 11)).map tl_ShareFetchRequestForgottenTopicsData := by rw [pk112, List.take_length]
      have hm11 : ml11 = ((lT (T.at 11)).map tl_ShareFetchRequestForgottenTopicsData).length := by rw [← hes11, List.length_map]; exact pk111
      refine frW pk110 .head (fun Hl11 hll11 hzl11 => ?_)
      have ht11 := TreesAt.row hzl11 pk111 pk110.le.1 (by have h1 := congrArg List.length hes11; rw [List.length_map, List.length_map] at h1; unfold B47; omega) (fun p hp => (pk113 p hp).mono hll11)
      rw [hes11] at ht11
      subst hm11
      refine sr ?_
      refine mv rfl rfl ?_
      refine nc rfl rfl ?_
      refine fa F181_13 rfl rfl ?_
      refine mkf rfl rfl ?_
      obtain ⟨kvs, hM, hlen, hel⟩ := (h5.mono (le_4.trans (le_5.trans (le_8.trans (hll10.trans (le_19.trans hll11))))))
      have hfu := hf.u
      refine cl rfl rfl rfl (t_each (j := 13) (I := fun i H1 Y => TgI 61 b_3 26 (.int .i64 0) (.slice none 0 0) (.bool false) (_) T.u i H1 Y) (hb.mono (le_4.trans (le_5.trans (le_8.trans (hll10.trans (le_19.trans hll11)))))) rfl hM (by omega) (fun i H1 H2 Y hle h => h.mono hle) TgI.start (fun i k v H1 Y L1 hi hle hI => ?_)) rfl (fun v_ H1 L1 le_30 hR_ => ?_)
      · obtain ⟨s, h1, ⟨va, vc, rfl, hx⟩, h2, h3⟩ := hel i k v hi
        have hik := sortKv_lt hi
        exact TgI.step (fun {_ _ _ _ _ _ _ _ _ _ _ _ _ _ _ _} => tc_165) hf.v (by omega) h1 (hx.mono hle) h2 h3 hI
      rw [hlen] at hR_
      obtain ⟨_, rfl, aU, cU, NU, esU, rfl, hrU, heU, hgU⟩ := hR_
      refine splL ?_
      rw [List.take_length] at heU
      refine frL hrU (.tail .head) (fun HU hleU hzU => ?_)
      have hU := (TagsAt.told hzU hrU heU hfu (fun p hp => (hgU p hp).mono hleU)).1
      refine nl ?_
      refine sr ?_
      refine fa0 F26_4 rfl rfl ?_
      refine ld (Says.own .head) Tryd.isAgg24 rfl (Nat.zero_add _).symm rfl rfl ?_
      refine cl rfl rfl rfl (k_sorted hU (h5.mono (le_4.trans (le_5.trans (le_8.trans (hll10.trans (le_19.trans (hll11.trans (le_30.trans hleU)))))))).rise) rfl (fun v_ H1 L1 hle_ hR_ => ?_)
      obtain ⟨rfl, rfl⟩ := hR_
      refine nl ?_
      refine sr ?_
      refine la (Says.own .head) Tryd.isAgg26 Tryd.sizeOf26 rfl (Nat.zero_add _).symm rfl rfl ?_
      refine sa Tryd.sizeOf26 rfl rfl rfl rfl rfl (.tail (.tail .head)) ?_
      refine nl ?_
      refine drW .head ?_
      refine frW (Row.whole (e := 26) (size := 5) (m := 12) (ds := [.int .i64 0, .slice ct14.sa (sT (T.at 0)).length ct14.sc, .bool (T.at 0).nul, .slice ct14.la 0 ct14.lc, .slice ct14.ua 0 ct14.uc, .int .i64 0, .slice ct22.sa (sT (T.at 1)).length ct22.sc, .bool (T.at 1).nul, .slice ct22.la 0 ct22.lc, .slice ct22.ua 0 ct22.uc, .int .i64 (IntKind.i32.wrap (T.at 2).n), .slice none 0 0, .bool false, .slice none 0 0, .slice none 0 0, .int .i64 (IntKind.i32.wrap (T.at 3).n), .slice none 0 0, .bool false, .slice none 0 0, .slice none 0 0, .int .i64 (IntKind.i32.wrap (T.at 4).n), .slice none 0 0, .bool false, .slice none 0 0, .slice none 0 0, .int .i64 (IntKind.i32.wrap (T.at 5).n), .slice none 0 0, .bool false, .slice none 0 0, .slice none 0 0, .int .i64 (IntKind.i32.wrap (T.at 6).n), .slice none 0 0, .bool false, .slice none 0 0, .slice none 0 0, .int .i64 (IntKind.i32.wrap (T.at 7).n), .slice none 0 0, .bool false, .slice none 0 0, .slice none 0 0, .int .i64 (IntKind.i8.wrap (T.at 8).n), .slice none 0 0, .bool false, .slice none 0 0, .slice none 0 0, .int .i64 (if (decide ((T.at 9).n % 2 = 1)) = true then 1 else 0), .slice none 0 0, .bool false, .slice none 0 0, .slice none 0 0, .int .i64 0, .slice none 0 0, .bool a10.isNone, .slice al10 ((lT (T.at 10)).map tl_ShareFetchRequestTopic).length cl10, .slice none 0 0, .int .i64 0, .slice none 0 0, .bool a11.isNone, .slice al11 ((lT (T.at 11)).map tl_ShareFetchRequestForgottenTopicsData).length cl11, .slice none 0 0]) rfl (by unfold maxLen; omega)) .head (fun H9 hle9 hz9 => ?_)
      have hrb : H9.at b_2 0 [.int .i64 0, .slice ct14.sa (sT (T.at 0)).length ct14.sc, .bool (T.at 0).nul, .slice ct14.la 0 ct14.lc, .slice ct14.ua 0 ct14.uc, .int .i64 0, .slice ct22.sa (sT (T.at 1)).length ct22.sc, .bool (T.at 1).nul, .slice ct22.la 0 ct22.lc, .slice ct22.ua 0 ct22.uc, .int .i64 (IntKind.i32.wrap (T.at 2).n), .slice none 0 0, .bool false, .slice none 0 0, .slice none 0 0, .int .i64 (IntKind.i32.wrap (T.at 3).n), .slice none 0 0, .bool false, .slice none 0 0, .slice none 0 0, .int .i64 (IntKind.i32.wrap (T.at 4).n), .slice none 0 0, .bool false, .slice none 0 0, .slice none 0 0, .int .i64 (IntKind.i32.wrap (T.at 5).n), .slice none 0 0, .bool false, .slice none 0 0, .slice none 0 0, .int .i64 (IntKind.i32.wrap (T.at 6).n), .slice none 0 0, .bool false, .slice none 0 0, .slice none 0 0, .int .i64 (IntKind.i32.wrap (T.at 7).n), .slice none 0 0, .bool false, .slice none 0 0, .slice none 0 0, .int .i64 (IntKind.i8.wrap (T.at 8).n), .slice none 0 0, .bool false, .slice none 0 0, .slice none 0 0, .int .i64 (if (decide ((T.at 9).n % 2 = 1)) = true then 1 else 0), .slice none 0 0, .bool false, .slice none 0 0, .slice none 0 0, .int .i64 0, .slice none 0 0, .bool a10.isNone, .slice al10 ((lT (T.at 10)).map tl_ShareFetchRequestTopic).length cl10, .slice none 0 0, .int .i64 0, .slice none 0 0, .bool a11.isNone, .slice al11 ((lT (T.at 11)).map tl_ShareFetchRequestForgottenTopicsData).length cl11, .slice none 0 0] := by
        rcases hz9 with ⟨h, _⟩ | ⟨g, h, h2⟩
        · cases h
        · cases h; exact h2
      rw [(h3).nul, (h4).nul] at hrb
      have hrb2 : H9.at b_2 0 (([((ct14 : TC), (Tr.mk 0 (sT (T.at 0)) (T.at 0).nul [] [] : Tr)), ((ct22 : TC), (Tr.mk 0 (sT (T.at 1)) (T.at 1).nul [] [] : Tr)), ((TC.none : TC), (Tr.mk (IntKind.i32.wrap (T.at 2).n) [] false [] [] : Tr)), ((TC.none : TC), (Tr.mk (IntKind.i32.wrap (T.at 3).n) [] false [] [] : Tr)), ((TC.none : TC), (Tr.mk (IntKind.i32.wrap (T.at 4).n) [] false [] [] : Tr)), ((TC.none : TC), (Tr.mk (IntKind.i32.wrap (T.at 5).n) [] false [] [] : Tr)), ((TC.none : TC), (Tr.mk (IntKind.i32.wrap (T.at 6).n) [] false [] [] : Tr)), ((TC.none : TC), (Tr.mk (IntKind.i32.wrap (T.at 7).n) [] false [] [] : Tr)), ((TC.none : TC), (Tr.mk (IntKind.i8.wrap (T.at 8).n) [] false [] [] : Tr)), ((TC.none : TC), (Tr.mk (if decide ((T.at 9).n % 2 = 1) = true then 1 else 0) [] false [] [] : Tr)), ((⟨none, 0, al10, cl10, none, 0⟩ : TC), (Tr.mk 0 [] (T.at 10).nul ((lT (T.at 10)).map tl_ShareFetchRequestTopic) [] : Tr)), ((⟨none, 0, al11, cl11, none, 0⟩ : TC), (Tr.mk 0 [] (T.at 11).nul ((lT (T.at 11)).map tl_ShareFetchRequestForgottenTopicsData) [] : Tr))] : List EE).flatMap fun p => p.1.cells p.2) := by exact hrb
      have hl9 : TreesAt H9 (some ⟨b_2, 0, none⟩) 12 [(.mk 0 (sT (T.at 0)) (T.at 0).nul [] []), (.mk 0 (sT (T.at 1)) (T.at 1).nul [] []), (.mk (IntKind.i32.wrap (T.at 2).n) [] false [] []), (.mk (IntKind.i32.wrap (T.at 3).n) [] false [] []), (.mk (IntKind.i32.wrap (T.at 4).n) [] false [] []), (.mk (IntKind.i32.wrap (T.at 5).n) [] false [] []), (.mk (IntKind.i32.wrap (T.at 6).n) [] false [] []), (.mk (IntKind.i32.wrap (T.at 7).n) [] false [] []), (.mk (IntKind.i8.wrap (T.at 8).n) [] false [] []), (.mk (if decide ((T.at 9).n % 2 = 1) = true then 1 else 0) [] false [] []), (.mk 0 [] (T.at 10).nul ((lT (T.at 10)).map tl_ShareFetchRequestTopic) []), (.mk 0 [] (T.at 11).nul ((lT (T.at 11)).map tl_ShareFetchRequestForgottenTopicsData) [])] := by
        refine TreesAt.row (es := [((ct14 : TC), (Tr.mk 0 (sT (T.at 0)) (T.at 0).nul [] [] : Tr)), ((ct22 : TC), (Tr.mk 0 (sT (T.at 1)) (T.at 1).nul [] [] : Tr)), ((TC.none : TC), (Tr.mk (IntKind.i32.wrap (T.at 2).n) [] false [] [] : Tr)), ((TC.none : TC), (Tr.mk (IntKind.i32.wrap (T.at 3).n) [] false [] [] : Tr)), ((TC.none : TC), (Tr.mk (IntKind.i32.wrap (T.at 4).n) [] false [] [] : Tr)), ((TC.none : TC), (Tr.mk (IntKind.i32.wrap (T.at 5).n) [] false [] [] : Tr)), ((TC.none : TC), (Tr.mk (IntKind.i32.wrap (T.at 6).n) [] false [] [] : Tr)), ((TC.none : TC), (Tr.mk (IntKind.i32.wrap (T.at 7).n) [] false [] [] : Tr)), ((TC.none : TC), (Tr.mk (IntKind.i8.wrap (T.at 8).n) [] false [] [] : Tr)), ((TC.none : TC), (Tr.mk (if decide ((T.at 9).n % 2 = 1) = true then 1 else 0) [] false [] [] : Tr)), ((⟨none, 0, al10, cl10, none, 0⟩ : TC), (Tr.mk 0 [] (T.at 10).nul ((lT (T.at 10)).map tl_ShareFetchRequestTopic) [] : Tr)), ((⟨none, 0, al11, cl11, none, 0⟩ : TC), (Tr.mk 0 [] (T.at 11).nul ((lT (T.at 11)).map tl_ShareFetchRequestForgottenTopicsData) [] : Tr))]) (.inr ⟨_, rfl, hrb2⟩) rfl (Nat.le_refl _) (Nat.le_of_ble_eq_true rfl) ?_
        intro p hp
        simp only [List.mem_cons, List.not_mem_nil, or_false] at hp
        rcases hp with rfl | rfl | rfl | rfl | rfl | rfl | rfl | rfl | rfl | rfl | rfl | rfl
        · exact (hT14.mono (le_5.trans (le_8.trans (hll10.trans (le_19.trans (hll11.trans (le_30.trans (hleU.trans hle9))))))))
        · exact (hT22.mono (le_8.trans (hll10.trans (le_19.trans (hll11.trans (le_30.trans (hleU.trans hle9)))))))
        · exact (.of (.nil _) (.nil _) (.nil _))
        · exact (.of (.nil _) (.nil _) (.nil _))
        · exact (.of (.nil _) (.nil _) (.nil _))
        · exact (.of (.nil _) (.nil _) (.nil _))
        · exact (.of (.nil _) (.nil _) (.nil _))
        · exact (.of (.nil _) (.nil _) (.nil _))
        · exact (.of (.nil _) (.nil _) (.nil _))
        · exact (.of (.nil _) (.nil _) (.nil _))
        · exact (.of (.nil _) (ht10.mono (le_19.trans (hll11.trans (le_30.trans (hleU.trans hle9))))) (.nil _))
        · exact (.of (.nil _) (ht11.mono (le_30.trans (hleU.trans hle9))) (.nil _))
      exact rC rfl Tryd.isAgg26 Tryd.sizeOf26 rfl .head rfl (le_4.trans (le_5.trans (le_8.trans (hll10.trans (le_19.trans (hll11.trans (le_30.trans (hleU.trans hle9)))))))) (fun _ _ h => h) ⟨rfl, ⟨none, 0, some ⟨b_2, 0, none⟩, 12, aU, cU⟩, rfl, .of (.nil _) hl9 (hU.mono hle9)⟩
end Go.Sx

import Derived.Test.YthgkgbaggjongaaGreatDoorBShareGroupDescribeResponse
import Derived.Test.YthgkgbaggjongaaGreatDoorTB
import Derived.KernelRfl
set_option linter.unusedVariables false
set_option linter.unusedSimpArgs false
set_option maxRecDepth 100000
set_option maxHeartbeats 20000000
namespace Go.Sx
open Go.Proofs
def tl_ShareGroupDescribeResponseGroupMemberAssignmentTopicPartition (T : Tr) : Tr := .mk 0 [] false [(.mk 0 (pad16 (T.at 0).s) false [] []), (.mk 0 (T.at 1).s false [] []), (.mk 0 [] (T.at 2).nul ((lT (T.at 2)).map (fun y : Tr => (Tr.mk (IntKind.i32.wrap y.n) [] false [] [] : Tr))) [])] T.u
theorem te_ShareGroupDescribeResponseGroupMemberAssignmentTopicPartition {H : Fz} {L : Own} {b o : Nat} {cs : List Value} {T : Tr} (hb : H.at b o cs) (hA : At_ShareGroupDescribeResponseGroupMemberAssignmentTopicPartition H T cs) (hf : Fits T) :
  Fn Tryz.prog 343 [.pointer (some ⟨b, o, none⟩)] H L (fun v H' L' => L = L' ∧ ∃ c : TC, v = .agg (c.cells (tl_ShareGroupDescribeResponseGroupMemberAssignmentTopicPartition T)).toArray ∧ TreeAt H' c (tl_ShareGroupDescribeResponseGroupMemberAssignmentTopicPartition T)) := by
 obtain ⟨a2, c2, mt, rfl, h1, h2⟩ := hA
 refine Fn.mk Tryz.call343 Tryz.func343 rfl Tryz.ntmps343 rfl ?_
 refine sr ?_
 refine al Tryz.zeroValue37 rfl rfl (fun b_1 => ?_)
 refine nl ?_
 refine sr ?_
 refine mkC (m := 3) (zs := [.int .i64 0, .slice none 0 0, .bool false, .slice none 0 0, .slice none 0 0]) Tryz.underlying34 I37 rfl rfl rfl rfl rfl rfl (by decide) (by unfold maxLen; omega) rfl (fun b_2 => ?_)
 refine bd' S37 rfl rfl rfl ?_
 refine al Tryz.zeroValue37 rfl rfl (fun b_3 => ?_)
 refine sa Tryz.sizeOf37 rfl rfl rfl rfl rfl .head ?_
 refine nl ?_
 refine sq ?_
 refine rgD 9 (.keep (.keep (.keep .nil))) mixed ?_
 refine dT 0 rfl rfl rfl (by kernel_rfl) (fun _ _ _ h => h) (y_fa0 F37_3 rfl) (.keep (.keep (.keep .nil))) (Fz.le.refl _) ?_
 refine dT 1 rfl rfl rfl (by kernel_rfl) (fun _ _ _ h => h) (y_ld (Says.own .head) Tryz.isAgg34 rfl (Nat.zero_add _).symm rfl) (.keep (.keep (.keep .nil))) (Fz.le.refl _) ?_
 refine dT 2 rfl rfl rfl (by kernel_rfl) (fun _ _ _ h => h) (y_mv rfl) (.keep (.keep (.keep .nil))) (Fz.le.refl _) ?_
 refine dT 3 rfl rfl rfl (by kernel_rfl) (fun _ _ _ h => h) (y_nc rfl) (.keep (.keep (.keep .nil))) (Fz.le.refl _) ?_
 refine dT 4 rfl rfl rfl (by kernel_rfl) (fun _ _ _ h => h) (y_fa F302_0 rfl) (.keep (.keep (.keep .nil))) (Fz.le.refl _) ?_
 refine dT 5 rfl rfl rfl (by kernel_rfl) (fun _ _ _ h => h) (y_slA Tryz.runUnderlying182 Tryz.sizeOf5 rfl) (.keep (.keep (.keep .nil))) (Fz.le.refl _) ?_
 refine dE 6 (by kernel_rfl) rfl ?_
 have hq13 := pad16_len (T.at 0).s
 refine apn (k := 16) (news := bytesOf (pad16 (T.at 0).s)) Tryz.underlying22 I5 rfl rfl (src_says (m := 16) (size := 1) Tryz.underlying22 (by rw [bytesOf_length, hq13]) (fun _ => Says.fz (by rw [← u16_eq]; exact (hb.part 0 16))) (bytesOf_one _)) (by omega) (by unfold maxLen; omega) rfl (fun a13 c13 N13 r13 => ?_)
 refine frL r13 .head (fun Hu13 hlu13 hz13 => ?_)
 have hb13 := BytesAt.row hz13 r13 (by rw [hq13]; unfold B47; omega)
 refine dN (.keep (.keep (.keep .nil))) hlu13 ?_
 refine dT 7 rfl rfl rfl (by kernel_rfl) (fun _ _ _ h => h) (y_bd S37 rfl rfl) (.keep (.keep (.keep .nil))) hlu13 ?_
 refine dT 8 rfl rfl rfl (by kernel_rfl) (fun _ _ _ h => h) (y_ix2 (j := 0) Tryz.runUnderlying34 Tryz.sizeOf37 rfl rfl rfl rfl (by decide)) (.keep (.keep (.keep .nil))) hlu13 ?_
 refine dE 9 (by kernel_rfl) rfl ?_
 refine sa Tryz.sizeOf37 rfl rfl rfl rfl rfl (.tail .head) ?_
 refine dNk (by kernel_rfl) ?_
 refine dD (by kernel_rfl) ?_
 refine Nt ?_
 refine sq ?_
 refine rgD 9 (.keep (.keep (.keep .nil))) mixed ?_
 refine dT 0 rfl rfl rfl (by kernel_rfl) (fun _ _ _ h => h) (y_fa0 F37_3 rfl) (.keep (.keep (.keep .nil))) (Fz.le.refl _) ?_
 refine dT 1 rfl rfl rfl (by kernel_rfl) (fun _ _ _ h => h) (y_ld (Says.own .head) Tryz.isAgg34 rfl (Nat.zero_add _).symm rfl) (.keep (.keep (.keep .nil))) (Fz.le.refl _) ?_
 refine dT 2 rfl rfl rfl (by kernel_rfl) (fun _ _ _ h => h) (y_mv rfl) (.keep (.keep (.keep .nil))) (Fz.le.refl _) ?_
 refine dT 3 rfl rfl rfl (by kernel_rfl) (fun _ _ _ h => h) (y_nc rfl) (.keep (.keep (.keep .nil))) (Fz.le.refl _) ?_
 refine dT 4 rfl rfl rfl (by kernel_rfl) (fun _ _ _ h => h) (y_fa F302_1 rfl) (.keep (.keep (.keep .nil))) (Fz.le.refl _) ?_
 refine dT 5 rfl rfl rfl (by kernel_rfl) (fun _ _ _ h => h) (y_ld (j := 16) (Says.fz (hb.mono hlu13)) Tryz.isAgg9 rfl rfl rfl) (.keep (.keep (.keep .nil))) (Fz.le.refl _) ?_
 refine dE 6 (by kernel_rfl) rfl ?_
 refine csb Tryz.underlying9 Tryz.underlying22 Tryz.underlying5 rfl (by have := (hf.at 1).s; unfold B47; omega) rfl (fun Hb22 b22 cp22 le_4 hb22 => ?_)
 refine dN (.keep (.keep (.keep .nil))) le_4 ?_
 refine dT 7 rfl rfl rfl (by kernel_rfl) (fun _ _ _ h => h) (y_bd S37 rfl rfl) (.keep (.keep (.keep .nil))) le_4 ?_
 refine dT 8 rfl rfl rfl (by kernel_rfl) (fun _ _ _ h => h) (y_ix2 (j := 1) Tryz.runUnderlying34 Tryz.sizeOf37 rfl rfl rfl rfl (by decide)) (.keep (.keep (.keep .nil))) le_4 ?_
 refine dE 9 (by kernel_rfl) rfl ?_
 refine sa Tryz.sizeOf37 rfl rfl rfl rfl rfl (.tail .head) ?_
 refine dNk (by kernel_rfl) ?_
 refine dD (by kernel_rfl) ?_
 refine Nt ?_
 refine sq ?_
 refine rgD 9 (.keep (.keep (.keep .nil))) mixed ?_
 refine dT 0 rfl rfl rfl (by kernel_rfl) (fun _ _ _ h => h) (y_fa0 F37_3 rfl) (.keep (.keep (.keep .nil))) (Fz.le.refl _) ?_
 refine dT 1 rfl rfl rfl (by kernel_rfl) (fun _ _ _ h => h) (y_ld (Says.own .head) Tryz.isAgg34 rfl (Nat.zero_add _).symm rfl) (.keep (.keep (.keep .nil))) (Fz.le.refl _) ?_
 refine dT 2 rfl rfl rfl (by kernel_rfl) (fun _ _ _ h => h) (y_mv rfl) (.keep (.keep (.keep .nil))) (Fz.le.refl _) ?_
 refine dT 3 rfl rfl rfl (by kernel_rfl) (fun _ _ _ h => h) (y_nc rfl) (.keep (.keep (.keep .nil))) (Fz.le.refl _) ?_
 refine dT 4 rfl rfl rfl (by kernel_rfl) (fun _ _ _ h => h) (y_fa F302_2 rfl) (.keep (.keep (.keep .nil))) (Fz.le.refl _) ?_
 refine dT 5 rfl rfl rfl (by kernel_rfl) (fun _ _ _ h => h) (y_ld (j := 17) (Says.fz (hb.mono (hlu13.trans le_4))) Tryz.isAgg227 rfl rfl rfl) (.keep (.keep (.keep .nil))) (Fz.le.refl _) ?_
 refine dT 6 rfl rfl rfl (by kernel_rfl) (fun _ _ _ h => h) (y_esn Tryz.underlying227 rfl) (.keep (.keep (.keep .nil))) (Fz.le.refl _) ?_
 refine dE 7 (by kernel_rfl) rfl ?_
 refine ixk (j := 2) Tryz.runUnderlying34 Tryz.sizeOf37 rfl rfl rfl rfl (by decide) rfl ?_
 refine dN (.keep (.keep (.keep .nil))) (Fz.le.refl _) ?_
 refine dT 8 rfl rfl rfl (by kernel_rfl) (fun _ _ _ h => h) (y_fa F37_2 rfl) (.keep (.keep (.keep .nil))) (Fz.le.refl _) ?_
 refine dE 9 (by kernel_rfl) rfl ?_
 refine st Tryz.sizeOf4 rfl rfl rfl rfl (.tail .head) ?_
 refine dNk (by kernel_rfl) ?_
 refine dD (by kernel_rfl) ?_
 refine Nt ?_
 refine sq ?_
 refine sr ?_
 refine mv rfl rfl ?_
 refine nc rfl rfl ?_
 refine fa F302_2 rfl rfl ?_
 refine ld (Says.fz (hb.mono (hlu13.trans le_4))) Tryz.isAgg227 rfl rfl rfl rfl ?_
 refine ls Tryz.runUnderlying227 rfl rfl ?_
 refine mv rfl rfl ?_
 refine nl ?_
 have hlm2 := (hf.at 2).lTl
 refine nulC2 ?_
 refine fr ((lT (T.at 2)).length) (fun k2 l' H' L' => ∃ (al2 : Option Addr), ∃ (ml2 : Nat), ∃ (cl2 : Nat), ∃ (es2 : List EE), ∃ (Nl2 : Chunk), [(0, .pointer (some ⟨b, o, none⟩)), (2, .pointer (some ⟨b_1, 0, none⟩)), (3, .pointer (some ⟨b_3, 0, none⟩)), (38, .int .i64 ((lT (T.at 2)).length : Int))] = l' ∧ Nl2 :: [(b_3, .cells [.int .i64 0, .slice none 0 0, .bool false, _, .slice none 0 0].toArray 37 (0, 0))] :: [(b_2, .cells [.int .i64 0, .slice a13 16 c13, .bool false, .slice none 0 0, .slice none 0 0, .int .i64 0, .slice (some ⟨b22, 0, none⟩) (T.at 1).s.length cp22, .bool false, .slice none 0 0, .slice none 0 0, .int .i64 0, .slice none 0 0, .bool a2.isNone, .slice al2 ml2 cl2, .slice none 0 0].toArray 37 (0, 0))] :: [(b_1, .cells [.int .i64 0, .slice none 0 0, .bool false, .slice none 0 0, .slice none 0 0].toArray 37 (0, 0))] :: L = L' ∧ Row 37 5 al2 ml2 cl2 (es2.flatMap f5) Nl2 ∧ ml2 = es2.length ∧ es2.map (·.2) = ((lT (T.at 2)).take k2).map (fun y : Tr => (Tr.mk (IntKind.i32.wrap y.n) [] false [] [] : Tr)) ∧ (∀ p : EE, p ∈ es2 → TreeAt H' p.1 p.2)) [(0, .pointer (some ⟨b, o, none⟩)), (2, .pointer (some ⟨b_1, 0, none⟩)), (3, .pointer (some ⟨b_3, 0, none⟩)), (38, .int .i64 ((lT (T.at 2)).length : Int))] (fun k2 l' H' L' h => ?_) (by omega) rfl (.cons rfl (.cons rfl (.cons rfl (.cons rfl (.nil _))))) ⟨none, 0, 0, [], [], rfl, rfl, (Row.nil _ _), rfl, (by simp), (fun p hp => by cases hp)⟩ rfl rfl rfl rfl rfl (fun k2 l' H' L' hk2 le_5 hI => ?_) (fun l' H' L' le_6 hI => ?_)
 · obtain ⟨al2, ml2, cl2, es2, Nl2, rfl, _⟩ := h; exact ⟨rfl, rfl, rfl, rfl⟩
 ·
  obtain ⟨al2, ml2, cl2, es2, Nl2, rfl, rfl, pk20, pk21, pk22, pk23⟩ := hI
  refine sr ?_
  refine mv rfl rfl ?_
  refine asg rfl rfl ?_
  refine nl ?_
  refine sq ?_
  refine rgD 4 .nil mixed ?_
  refine dE 0 (by kernel_rfl) rfl ?_
  refine al Tryz.zeroValue4 rfl rfl (fun b_7 => ?_)
  refine dN .nil (Fz.le.refl _) ?_
  refine dE2 1 2 (by kernel_rfl) rfl rfl ?_ ?_
  ·
   refine st Tryz.sizeOf4 rfl rfl rfl rfl .head ?_
   refine dN .nil (Fz.le.refl _) ?_
   refine dE 2 (by kernel_rfl) rfl ?_
   refine st Tryz.sizeOf4 rfl rfl rfl rfl .head ?_
   refine dN .nil (Fz.le.refl _) ?_
   refine dE 3 (by kernel_rfl) rfl ?_
   refine ld (Says.own .head) Tryz.isAgg4 rfl (Nat.zero_add _).symm rfl rfl ?_
   refine dN .nil (Fz.le.refl _) ?_
   refine dD (by kernel_rfl) ?_
   refine drN .head ?_
   refine Nt ?_
   refine cF rfl ?_
   refine rgD 20 (.skip (.keep (.keep (.keep .nil)))) mixed ?_
   refine dT 0 rfl rfl rfl (by kernel_rfl) (fun _ _ _ h => h) (y_fa0 F37_3 rfl) (.skip (.keep (.keep (.keep .nil)))) (Fz.le.refl _) ?_
   refine dT 1 rfl rfl rfl (by kernel_rfl) (fun _ _ _ h => h) (y_ld (Says.own .head) Tryz.isAgg34 rfl (Nat.zero_add _).symm rfl) (.skip (.keep (.keep (.keep .nil)))) (Fz.le.refl _) ?_
   refine dT 2 rfl rfl rfl (by kernel_rfl) (fun _ _ _ h => h) (y_fa0 F37_3 rfl) (.skip (.keep (.keep (.keep .nil)))) (Fz.le.refl _) ?_
   refine dT 3 rfl rfl rfl (by kernel_rfl) (fun _ _ _ h => h) (y_ld (Says.own .head) Tryz.isAgg34 rfl (Nat.zero_add _).symm rfl) (.skip (.keep (.keep (.keep .nil)))) (Fz.le.refl _) ?_
   refine dT 4 rfl rfl rfl (by kernel_rfl) (fun _ _ _ h => h) (y_ix2 (j := 2) Tryz.runUnderlying34 Tryz.sizeOf37 rfl rfl rfl rfl (by decide)) (.skip (.keep (.keep (.keep .nil)))) (Fz.le.refl _) ?_
   refine dT 5 rfl rfl rfl (by kernel_rfl) (fun _ _ _ h => h) (y_fa F37_3 rfl) (.skip (.keep (.keep (.keep .nil)))) (Fz.le.refl _) ?_
   refine dT 6 rfl rfl rfl (by kernel_rfl) (fun _ _ _ h => h) (y_ld (Says.own (.tail .head)) Tryz.isAgg34 rfl (Nat.zero_add _).symm rfl) (.skip (.keep (.keep (.keep .nil)))) (Fz.le.refl _) ?_
   refine dT 7 rfl rfl rfl (by kernel_rfl) (fun _ _ _ h => h) (y_mv rfl) (.skip (.keep (.keep (.keep .nil)))) (Fz.le.refl _) ?_
   refine dT 8 rfl rfl rfl (by kernel_rfl) (fun _ _ _ h => h) (y_nc rfl) (.skip (.keep (.keep (.keep .nil)))) (Fz.le.refl _) ?_
   refine dT 9 rfl rfl rfl (by kernel_rfl) (fun _ _ _ h => h) (y_fa F302_2 rfl) (.skip (.keep (.keep (.keep .nil)))) (Fz.le.refl _) ?_
   refine dT 10 rfl rfl rfl (by kernel_rfl) (fun _ _ _ h => h) (y_ld (j := 17) (Says.fz (hb.mono (hlu13.trans (le_4.trans le_5)))) Tryz.isAgg227 rfl rfl rfl) (.skip (.keep (.keep (.keep .nil)))) (Fz.le.refl _) ?_
   refine dT 11 rfl rfl rfl (by kernel_rfl) (fun _ _ _ h => h) (y_mv rfl) (.skip (.keep (.keep (.keep .nil)))) (Fz.le.refl _) ?_
   obtain ⟨beq_8, oeq_8, haq_8, hlq_8⟩ := ((h1.mono RI32.mono (hlu13.trans (le_4.trans le_5)))).rows.at_ (ne_nil_of_lt hk2)
   obtain ⟨ceq_8, hAq_8, hbq_8⟩ := hlq_8 k2 hk2
   obtain rfl : ceq_8 = [.int .i32 (IntKind.i32.wrap ((lT (T.at 2))[k2]).n)] := hAq_8
   refine dT 12 rfl rfl rfl (by kernel_rfl) (fun _ _ _ h => h) (y_ixk (j := k2) Tryz.runUnderlying227 Tryz.sizeOf21 rfl haq_8 rfl rfl hk2) (.skip (.keep (.keep (.keep .nil)))) (Fz.le.refl _) ?_
   refine dT 13 rfl rfl rfl (by kernel_rfl) (fun _ _ _ h => h) (y_ld (Says.fz hbq_8) Tryz.isAgg21 rfl (Nat.add_zero _).symm rfl) (.skip (.keep (.keep (.keep .nil)))) (Fz.le.refl _) ?_
   refine dT 14 rfl rfl rfl (by kernel_rfl) (fun _ _ _ h => h) (y_cv Tryz.runUnderlying21 Tryz.runUnderlying2 rfl (i32_64 _)) (.skip (.keep (.keep (.keep .nil)))) (Fz.le.refl _) ?_
   refine dT 15 rfl rfl rfl (by kernel_rfl) (fun _ _ _ h => h) (y_bd S37 rfl rfl) (.skip (.keep (.keep (.keep .nil)))) (Fz.le.refl _) ?_
   refine dE 16 (by kernel_rfl) rfl ?_
   refine bs' L34 rfl rfl rfl rfl (fun b_9 => ?_)
   refine dN (.skip (.skip (.keep (.keep (.keep .nil))))) (Fz.le.refl _) ?_
   refine dE 17 (by kernel_rfl) rfl ?_
   have hmk : ml2 = k2 := by have h1 := congrArg List.length pk22; rw [List.length_map, List.length_map, List.length_take] at h1; omega
   have hmb := (hf.at 2).lTl
   refine ap (k := 1) (news := f5 (((TC.none : TC), (Tr.mk (IntKind.i32.wrap ((lT (T.at 2))[k2]).n) [] false [] [] : Tr)) : EE)) Tryz.underlying34 I37 rfl rfl pk20 (fun _ => (.tail .head)) (src_says Tryz.underlying34 rfl (fun _ => Says.own .head) (f5_one _)) (by omega) (by unfold maxLen; omega) rfl (fun a81 c81 N81 r81 z81 => ?_)
   rw [flatMap_snoc'] at r81
   refine dN (.skip (.skip (.keep (.keep (.keep .nil))))) (Fz.le.refl _) ?_
   refine dE 18 (by kernel_rfl) rfl ?_
   refine ixk (j := 2) Tryz.runUnderlying34 Tryz.sizeOf37 rfl rfl rfl rfl (by decide) rfl ?_
   refine dN (.skip (.skip (.keep (.keep (.keep .nil))))) (Fz.le.refl _) ?_
   refine dT 19 rfl rfl rfl (by kernel_rfl) (fun _ _ _ h => h) (y_fa F37_3 rfl) (.skip (.skip (.keep (.keep (.keep .nil))))) (Fz.le.refl _) ?_
   refine dE 20 (by kernel_rfl) rfl ?_
   refine st Tryz.sizeOf34 rfl rfl rfl rfl (.tail (.tail (.tail .head))) ?_
   refine dNk (by kernel_rfl) ?_
   refine dD (by kernel_rfl) ?_
   refine Nb ?_
   refine drN .head ?_
   refine fun a_ w_ hA hw => ⟨_, _, _, hA.sub ?_, le_5, hw, _, rfl, a81, (ml2 + 1), c81, (es2 ++ [(((TC.none : TC), (Tr.mk (IntKind.i32.wrap ((lT (T.at 2))[k2]).n) [] false [] [] : Tr)) : EE)]), N81, rfl, rfl, r81, (by simp; omega), (map_take_snoc (g := (fun y : Tr => (Tr.mk (IntKind.i32.wrap y.n) [] false [] [] : Tr))) hk2 pk22), (fun p hp => (mem_snoc hp).elim (fun h => (pk23 p h).mono (Fz.le.refl _)) (fun h => h ▸ (.of (.nil _) (.nil _) (.nil _))))⟩
   exact (.cons rfl (.cons rfl (.cons rfl (.cons rfl (.cons rfl (.nil _))))))
  ·
   refine st Tryz.sizeOf4 rfl rfl rfl rfl .head ?_
   refine dN .nil (Fz.le.refl _) ?_
   refine dE 1 (by kernel_rfl) rfl ?_
   refine st Tryz.sizeOf4 rfl rfl rfl rfl .head ?_
   refine dN .nil (Fz.le.refl _) ?_
   refine dE 3 (by kernel_rfl) rfl ?_
   refine ld (Says.own .head) Tryz.isAgg4 rfl (Nat.zero_add _).symm rfl rfl ?_
   refine dN .nil (Fz.le.refl _) ?_
   refine dD (by kernel_rfl) ?_
   refine drN .head ?_
   refine Nt ?_
   refine cT rfl ?_
   refine sq ?_
   refine rgD 19 (.skip (.keep (.keep (.keep .nil)))) mixed ?_
   refine dT 0 rfl rfl rfl (by kernel_rfl) (fun _ _ _ h => h) (y_fa0 F37_3 rfl) (.skip (.keep (.keep (.keep .nil)))) (Fz.le.refl _) ?_
   refine dT 1 rfl rfl rfl (by kernel_rfl) (fun _ _ _ h => h) (y_ld (Says.own .head) Tryz.isAgg34 rfl (Nat.zero_add _).symm rfl) (.skip (.keep (.keep (.keep .nil)))) (Fz.le.refl _) ?_
   refine dT 2 rfl rfl rfl (by kernel_rfl) (fun _ _ _ h => h) (y_ix2 (j := 2) Tryz.runUnderlying34 Tryz.sizeOf37 rfl rfl rfl rfl (by decide)) (.skip (.keep (.keep (.keep .nil)))) (Fz.le.refl _) ?_
   refine dT 3 rfl rfl rfl (by kernel_rfl) (fun _ _ _ h => h) (y_fa F37_3 rfl) (.skip (.keep (.keep (.keep .nil)))) (Fz.le.refl _) ?_
   refine dT 4 rfl rfl rfl (by kernel_rfl) (fun _ _ _ h => h) (y_ld (Says.own (.tail .head)) Tryz.isAgg34 rfl (Nat.zero_add _).symm rfl) (.skip (.keep (.keep (.keep .nil)))) (Fz.le.refl _) ?_
   refine dT 5 rfl rfl rfl (by kernel_rfl) (fun _ _ _ h => h) (y_mv rfl) (.skip (.keep (.keep (.keep .nil)))) (Fz.le.refl _) ?_
   refine dT 6 rfl rfl rfl (by kernel_rfl) (fun _ _ _ h => h) (y_nc rfl) (.skip (.keep (.keep (.keep .nil)))) (Fz.le.refl _) ?_
   refine dT 7 rfl rfl rfl (by kernel_rfl) (fun _ _ _ h => h) (y_fa F302_2 rfl) (.skip (.keep (.keep (.keep .nil)))) (Fz.le.refl _) ?_
   refine dT 8 rfl rfl rfl (by kernel_rfl) (fun _ _ _ h => h) (y_ld (j := 17) (Says.fz (hb.mono (hlu13.trans (le_4.trans le_5)))) Tryz.isAgg227 rfl rfl rfl) (.skip (.keep (.keep (.keep .nil)))) (Fz.le.refl _) ?_
   refine dT 9 rfl rfl rfl (by kernel_rfl) (fun _ _ _ h => h) (y_mv rfl) (.skip (.keep (.keep (.keep .nil)))) (Fz.le.refl _) ?_
   obtain ⟨beq_10, oeq_10, haq_10, hlq_10⟩ := ((h1.mono RI32.mono (hlu13.trans (le_4.trans le_5)))).rows.at_ (ne_nil_of_lt hk2)
   obtain ⟨ceq_10, hAq_10, hbq_10⟩ := hlq_10 k2 hk2
   obtain rfl : ceq_10 = [.int .i32 (IntKind.i32.wrap ((lT (T.at 2))[k2]).n)] := hAq_10
   refine dT 10 rfl rfl rfl (by kernel_rfl) (fun _ _ _ h => h) (y_ixk (j := k2) Tryz.runUnderlying227 Tryz.sizeOf21 rfl haq_10 rfl rfl hk2) (.skip (.keep (.keep (.keep .nil)))) (Fz.le.refl _) ?_
   refine dT 11 rfl rfl rfl (by kernel_rfl) (fun _ _ _ h => h) (y_ld (Says.fz hbq_10) Tryz.isAgg21 rfl (Nat.add_zero _).symm rfl) (.skip (.keep (.keep (.keep .nil)))) (Fz.le.refl _) ?_
   refine dT 12 rfl rfl rfl (by kernel_rfl) (fun _ _ _ h => h) (y_cv Tryz.runUnderlying21 Tryz.runUnderlying2 rfl (i32_64 _)) (.skip (.keep (.keep (.keep .nil)))) (Fz.le.refl _) ?_
   refine dT 13 rfl rfl rfl (by kernel_rfl) (fun _ _ _ h => h) (y_bd S37 rfl rfl) (.skip (.keep (.keep (.keep .nil)))) (Fz.le.refl _) ?_
   refine dT 14 rfl rfl rfl (by kernel_rfl) (fun _ _ _ h => h) (y_ls Tryz.runUnderlying34 rfl) (.skip (.keep (.keep (.keep .nil)))) (Fz.le.refl _) ?_
   refine dE 15 (by kernel_rfl) rfl ?_
   refine bs' L34 rfl rfl rfl rfl (fun b_11 => ?_)
   refine dN (.skip (.skip (.keep (.keep (.keep .nil))))) (Fz.le.refl _) ?_
   refine dE 16 (by kernel_rfl) rfl ?_
   have hmk : ml2 = k2 := by have h1 := congrArg List.length pk22; rw [List.length_map, List.length_map, List.length_take] at h1; omega
   have hmb := (hf.at 2).lTl
   refine ap (k := 1) (news := f5 ((TC.none, Tr.none) : EE)) Tryz.underlying34 I37 rfl rfl pk20 (fun _ => (.tail .head)) (src_says Tryz.underlying34 rfl (fun _ => Says.own .head) (f5_one _)) (by omega) (by unfold maxLen; omega) rfl (fun a60 c60 N60 r60 z60 => ?_)
   refine dN (.skip (.skip (.keep (.keep (.keep .nil))))) (Fz.le.refl _) ?_
   refine dE 17 (by kernel_rfl) rfl ?_
   refine ixk (j := 2) Tryz.runUnderlying34 Tryz.sizeOf37 rfl rfl rfl rfl (by decide) rfl ?_
   refine dN (.skip (.skip (.keep (.keep (.keep .nil))))) (Fz.le.refl _) ?_
   refine dT 18 rfl rfl rfl (by kernel_rfl) (fun _ _ _ h => h) (y_fa F37_3 rfl) (.skip (.skip (.keep (.keep (.keep .nil))))) (Fz.le.refl _) ?_
   refine dE 19 (by kernel_rfl) rfl ?_
   refine st Tryz.sizeOf34 rfl rfl rfl rfl (.tail (.tail (.tail .head))) ?_
   refine dNk (by kernel_rfl) ?_
   refine dD (by kernel_rfl) ?_
   refine Nt ?_
   refine rg ?_
   obtain ⟨gg60, hgg60⟩ := r60.addr (by omega)
   refine ixk (j := ml2) Tryz.runUnderlying34 Tryz.sizeOf37 rfl hgg60 rfl rfl (by omega) rfl ?_
   refine sR (ds := f5 (((TC.none : TC), (Tr.mk (IntKind.i32.wrap ((lT (T.at 2))[k2]).n) [] false [] [] : Tr)) : EE)) r60 hgg60 (fun _ => (.tail .head)) Tryz.sizeOf37 rfl rfl rfl rfl (by omega) (fun N60b r60b => ?_)
   rw [row_put (k := 5) (m := ml2) (A := es2.flatMap f5) (by rw [flatMap_len f5 5 f5_len, pk21]) rfl, flatMap_snoc'] at r60b
   refine nN ?_
   refine Nb ?_
   refine drN .head ?_
   refine fun a_ w_ hA hw => ⟨_, _, _, hA.sub ?_, le_5, hw, _, rfl, a60, (ml2 + 1), c60, (es2 ++ [(((TC.none : TC), (Tr.mk (IntKind.i32.wrap ((lT (T.at 2))[k2]).n) [] false [] [] : Tr)) : EE)]), N60b, rfl, rfl, r60b, (by simp; omega), (map_take_snoc (g := (fun y : Tr => (Tr.mk (IntKind.i32.wrap y.n) [] false [] [] : Tr))) hk2 pk22), (fun p hp => (mem_snoc hp).elim (fun h => (pk23 p h).mono (Fz.le.refl _)) (fun h => h ▸ (.of (.nil _) (.nil _) (.nil _))))⟩
   exact (.cons rfl (.cons rfl (.cons rfl (.cons rfl (.cons rfl (.nil _))))))
 ·
  obtain ⟨al2, ml2, cl2, es2, Nl2, rfl, rfl, pk20, pk21, pk22, pk23⟩ := hI
  refine toWp ?_
  have hes2 : es2.map (·.2) = (lT (T.at 2)).map (fun y : Tr => (Tr.mk (IntKind.i32.wrap y.n) [] false [] [] : Tr)) := by rw [pk22, List.take_length]
  have hm2 : ml2 = ((lT (T.at 2)).map (fun y : Tr => (Tr.mk (IntKind.i32.wrap y.n) [] false [] [] : Tr))).length := by rw [← hes2, List.length_map]; exact pk21
  refine frW pk20 .head (fun Hl2 hll2 hzl2 => ?_)
  have ht2 := TreesAt.row hzl2 pk21 pk20.le.1 (by have h1 := congrArg List.length hes2; rw [List.length_map, List.length_map] at h1; unfold B47; omega) (fun p hp => (pk23 p hp).mono hll2)
  rw [hes2] at ht2
  subst hm2
  refine sr ?_
  refine mv rfl rfl ?_
  refine nc rfl rfl ?_
  refine fa F302_3 rfl rfl ?_
  refine mkf rfl rfl ?_
  have hkv_ := (h2.mono (hlu13.trans (le_4.trans (le_6.trans hll2))))
  obtain ⟨kvs, hM, hlen, hel⟩ := hkv_
  have hfu := hf.u
  refine cl rfl rfl rfl (t_each (j := 18) (I := fun i H1 Y => TgI 72 b_3 37 (.int .i64 0) (.slice none 0 0) (.bool false) (_) T.u i H1 Y) (hb.mono (hlu13.trans (le_4.trans (le_6.trans hll2)))) rfl hM (by omega) (fun i H1 H2 Y hle h => h.mono hle) TgI.start (fun i k v H1 Y L1 hi hle hI => ?_)) rfl (fun v_ H1 L1 le_13 hR_ => ?_)
  ·
   obtain ⟨s, h1, ⟨va, vc, rfl, hx⟩, h2, h3⟩ := hel i k v hi
   have hik := sortKv_lt hi
   exact TgI.step (fun {_ _ _ _ _ _ _ _ _ _ _ _ _ _ _ _} => tc_351) hf.v (by omega) h1 (hx.mono hle) h2 h3 hI
  rw [hlen] at hR_
  obtain ⟨_, rfl, aU, cU, NU, esU, rfl, hrU, heU, hgU⟩ := hR_
  refine splL ?_
  rw [List.take_length] at heU
  refine frL hrU (.tail .head) (fun HU hleU hzU => ?_)
  have hU := (TagsAt.told hzU hrU heU hfu (fun p hp => (hgU p hp).mono hleU)).1
  refine nl ?_
  refine sr ?_
  refine fa0 F37_4 rfl rfl ?_
  refine ld (Says.own .head) Tryz.isAgg35 rfl (Nat.zero_add _).symm rfl rfl ?_
  refine cl rfl rfl rfl (k_sorted hU (h2.mono (hlu13.trans (le_4.trans (le_6.trans (hll2.trans (le_13.trans hleU)))))).rise) rfl (fun v_ H1 L1 hle_ hR_ => ?_)
  obtain ⟨rfl, rfl⟩ := hR_
  refine nl ?_
  refine sr ?_
  refine la (Says.own .head) Tryz.isAgg37 Tryz.sizeOf37 rfl (Nat.zero_add _).symm rfl rfl ?_
  refine sa Tryz.sizeOf37 rfl rfl rfl rfl rfl (.tail (.tail .head)) ?_
  refine nl ?_
  refine drW .head ?_
  refine frW (Row.whole (e := 37) (size := 5) (m := 3) (ds := [.int .i64 0, .slice a13 16 c13, .bool false, .slice none 0 0, .slice none 0 0, .int .i64 0, .slice (some ⟨b22, 0, none⟩) (T.at 1).s.length cp22, .bool false, .slice none 0 0, .slice none 0 0, .int .i64 0, .slice none 0 0, .bool a2.isNone, .slice al2 ((lT (T.at 2)).map (fun y : Tr => (Tr.mk (IntKind.i32.wrap y.n) [] false [] [] : Tr))).length cl2, .slice none 0 0]) rfl (by unfold maxLen; omega)) .head (fun H9 hle9 hz9 => ?_)
  have hrb : H9.at b_2 0 [.int .i64 0, .slice a13 16 c13, .bool false, .slice none 0 0, .slice none 0 0, .int .i64 0, .slice (some ⟨b22, 0, none⟩) (T.at 1).s.length cp22, .bool false, .slice none 0 0, .slice none 0 0, .int .i64 0, .slice none 0 0, .bool a2.isNone, .slice al2 ((lT (T.at 2)).map (fun y : Tr => (Tr.mk (IntKind.i32.wrap y.n) [] false [] [] : Tr))).length cl2, .slice none 0 0] := by
   rcases hz9 with ⟨h, _⟩ | ⟨g, h, h2⟩
   · cases h
   · cases h; exact h2
  rw [(h1).nul] at hrb
  have hq9_0 := pad16_len (T.at 0).s
  have hrb2 : H9.at b_2 0 (([((⟨a13, c13, none, 0, none, 0⟩ : TC), (Tr.mk 0 (pad16 (T.at 0).s) false [] [] : Tr)), ((⟨some ⟨b22, 0, none⟩, cp22, none, 0, none, 0⟩ : TC), (Tr.mk 0 (T.at 1).s false [] [] : Tr)), ((⟨none, 0, al2, cl2, none, 0⟩ : TC), (Tr.mk 0 [] (T.at 2).nul ((lT (T.at 2)).map (fun y : Tr => (Tr.mk (IntKind.i32.wrap y.n) [] false [] [] : Tr))) [] : Tr))] : List EE).flatMap fun p => p.1.cells p.2) := by
   simp only [List.flatMap_cons, List.flatMap_nil, TC.cells, Tr.n, Tr.s, Tr.nul, Tr.l, Tr.u, TC.none, pad16_len]
   exact hrb
  have hl9 : TreesAt H9 (some ⟨b_2, 0, none⟩) 3 [(.mk 0 (pad16 (T.at 0).s) false [] []), (.mk 0 (T.at 1).s false [] []), (.mk 0 [] (T.at 2).nul ((lT (T.at 2)).map (fun y : Tr => (Tr.mk (IntKind.i32.wrap y.n) [] false [] [] : Tr))) [])] := by
   refine TreesAt.row (es := [((⟨a13, c13, none, 0, none, 0⟩ : TC), (Tr.mk 0 (pad16 (T.at 0).s) false [] [] : Tr)), ((⟨some ⟨b22, 0, none⟩, cp22, none, 0, none, 0⟩ : TC), (Tr.mk 0 (T.at 1).s false [] [] : Tr)), ((⟨none, 0, al2, cl2, none, 0⟩ : TC), (Tr.mk 0 [] (T.at 2).nul ((lT (T.at 2)).map (fun y : Tr => (Tr.mk (IntKind.i32.wrap y.n) [] false [] [] : Tr))) [] : Tr))]) (.inr ⟨_, rfl, hrb2⟩) rfl (Nat.le_refl _) (Nat.le_of_ble_eq_true rfl) ?_
   intro p hp
   simp only [List.mem_cons, List.not_mem_nil, or_false] at hp
   rcases hp with rfl | rfl | rfl
   · exact (.of (hb13.mono (le_4.trans (le_6.trans (hll2.trans (le_13.trans (hleU.trans hle9)))))) (.nil _) (.nil _))
   · exact (.of (hb22.mono (le_6.trans (hll2.trans (le_13.trans (hleU.trans hle9))))) (.nil _) (.nil _))
   · exact (.of (.nil _) (ht2.mono (le_13.trans (hleU.trans hle9))) (.nil _))
  exact rC rfl Tryz.isAgg37 Tryz.sizeOf37 rfl .head rfl (hlu13.trans (le_4.trans (le_6.trans (hll2.trans (le_13.trans (hleU.trans hle9)))))) (fun _ _ h => h) ⟨rfl, ⟨none, 0, some ⟨b_2, 0, none⟩, 3, aU, cU⟩, rfl, .of (.nil _) hl9 (hU.mono hle9)⟩
def tl_ShareGroupDescribeResponseGroupMemberAssignment (T : Tr) : Tr := .mk 0 [] false [(.mk 0 [] (T.at 0).nul ((lT (T.at 0)).map tl_ShareGroupDescribeResponseGroupMemberAssignmentTopicPartition) [])] T.u
theorem te_ShareGroupDescribeResponseGroupMemberAssignment {H : Fz} {L : Own} {b o : Nat} {cs : List Value} {T : Tr} (hb : H.at b o cs) (hA : At_ShareGroupDescribeResponseGroupMemberAssignment H T cs) (hf : Fits T) :
  Fn Tryz.prog 315 [.pointer (some ⟨b, o, none⟩)] H L (fun v H' L' => L = L' ∧ ∃ c : TC, v = .agg (c.cells (tl_ShareGroupDescribeResponseGroupMemberAssignment T)).toArray ∧ TreeAt H' c (tl_ShareGroupDescribeResponseGroupMemberAssignment T)) := by
 obtain ⟨a0, c0, mt, rfl, h1, h2⟩ := hA
 refine Fn.mk Tryz.call315 Tryz.func315 rfl Tryz.ntmps315 rfl ?_
 refine sr ?_
 refine al Tryz.zeroValue37 rfl rfl (fun b_1 => ?_)
 refine nl ?_
 refine sr ?_
 refine mkC (m := 1) (zs := [.int .i64 0, .slice none 0 0, .bool false, .slice none 0 0, .slice none 0 0]) Tryz.underlying34 I37 rfl rfl rfl rfl rfl rfl (by decide) (by unfold maxLen; omega) rfl (fun b_2 => ?_)
 refine bd' S37 rfl rfl rfl ?_
 refine al Tryz.zeroValue37 rfl rfl (fun b_3 => ?_)
 refine sa Tryz.sizeOf37 rfl rfl rfl rfl rfl .head ?_
 refine nl ?_
 refine sq ?_
 refine rgD 9 (.keep (.keep (.keep .nil))) mixed ?_
 refine dT 0 rfl rfl rfl (by kernel_rfl) (fun _ _ _ h => h) (y_fa0 F37_3 rfl) (.keep (.keep (.keep .nil))) (Fz.le.refl _) ?_
 refine dT 1 rfl rfl rfl (by kernel_rfl) (fun _ _ _ h => h) (y_ld (Says.own .head) Tryz.isAgg34 rfl (Nat.zero_add _).symm rfl) (.keep (.keep (.keep .nil))) (Fz.le.refl _) ?_
 refine dT 2 rfl rfl rfl (by kernel_rfl) (fun _ _ _ h => h) (y_mv rfl) (.keep (.keep (.keep .nil))) (Fz.le.refl _) ?_
 refine dT 3 rfl rfl rfl (by kernel_rfl) (fun _ _ _ h => h) (y_nc rfl) (.keep (.keep (.keep .nil))) (Fz.le.refl _) ?_
 refine dT 4 rfl rfl rfl (by kernel_rfl) (fun _ _ _ h => h) (y_fa F296_0 rfl) (.keep (.keep (.keep .nil))) (Fz.le.refl _) ?_
 refine dT 5 rfl rfl rfl (by kernel_rfl) (fun _ _ _ h => h) (y_ld (j := 0) (Says.fz hb) Tryz.isAgg294 rfl (Nat.add_zero _).symm rfl) (.keep (.keep (.keep .nil))) (Fz.le.refl _) ?_
 refine dT 6 rfl rfl rfl (by kernel_rfl) (fun _ _ _ h => h) (y_esn Tryz.underlying294 rfl) (.keep (.keep (.keep .nil))) (Fz.le.refl _) ?_
 refine dE 7 (by kernel_rfl) rfl ?_
 refine ixk (j := 0) Tryz.runUnderlying34 Tryz.sizeOf37 rfl rfl rfl rfl (by decide) rfl ?_
 refine dN (.keep (.keep (.keep .nil))) (Fz.le.refl _) ?_
 refine dT 8 rfl rfl rfl (by kernel_rfl) (fun _ _ _ h => h) (y_fa F37_2 rfl) (.keep (.keep (.keep .nil))) (Fz.le.refl _) ?_
 refine dE 9 (by kernel_rfl) rfl ?_
 refine st Tryz.sizeOf4 rfl rfl rfl rfl (.tail .head) ?_
 refine dNk (by kernel_rfl) ?_
 refine dD (by kernel_rfl) ?_
 refine Nt ?_
 refine sq ?_
 refine sr ?_
 refine mv rfl rfl ?_
 refine nc rfl rfl ?_
 refine fa F296_0 rfl rfl ?_
 refine ld (Says.fz hb) Tryz.isAgg294 rfl (Nat.add_zero _).symm rfl rfl ?_
 refine ls Tryz.runUnderlying294 rfl rfl ?_
 refine mv rfl rfl ?_
 refine nl ?_
 have hlm0 := (hf.at 0).lTl
 refine nulC2 ?_
 refine fr ((lT (T.at 0)).length) (fun k0 l' H' L' => ∃ (al0 : Option Addr), ∃ (ml0 : Nat), ∃ (cl0 : Nat), ∃ (es0 : List EE), ∃ (Nl0 : Chunk), [(0, .pointer (some ⟨b, o, none⟩)), (2, .pointer (some ⟨b_1, 0, none⟩)), (3, .pointer (some ⟨b_3, 0, none⟩)), (20, .int .i64 ((lT (T.at 0)).length : Int))] = l' ∧ Nl0 :: [(b_3, .cells [.int .i64 0, .slice none 0 0, .bool false, _, .slice none 0 0].toArray 37 (0, 0))] :: [(b_2, .cells [.int .i64 0, .slice none 0 0, .bool a0.isNone, .slice al0 ml0 cl0, .slice none 0 0].toArray 37 (0, 0))] :: [(b_1, .cells [.int .i64 0, .slice none 0 0, .bool false, .slice none 0 0, .slice none 0 0].toArray 37 (0, 0))] :: L = L' ∧ Row 37 5 al0 ml0 cl0 (es0.flatMap f5) Nl0 ∧ ml0 = es0.length ∧ es0.map (·.2) = ((lT (T.at 0)).take k0).map tl_ShareGroupDescribeResponseGroupMemberAssignmentTopicPartition ∧ (∀ p : EE, p ∈ es0 → TreeAt H' p.1 p.2)) [(0, .pointer (some ⟨b, o, none⟩)), (2, .pointer (some ⟨b_1, 0, none⟩)), (3, .pointer (some ⟨b_3, 0, none⟩)), (20, .int .i64 ((lT (T.at 0)).length : Int))] (fun k0 l' H' L' h => ?_) (by omega) rfl (.cons rfl (.cons rfl (.cons rfl (.cons rfl (.nil _))))) ⟨none, 0, 0, [], [], rfl, rfl, (Row.nil _ _), rfl, (by simp), (fun p hp => by cases hp)⟩ rfl rfl rfl rfl rfl (fun k0 l' H' L' hk0 le_4 hI => ?_) (fun l' H' L' le_5 hI => ?_)
 · obtain ⟨al0, ml0, cl0, es0, Nl0, rfl, _⟩ := h; exact ⟨rfl, rfl, rfl, rfl⟩
 ·
  obtain ⟨al0, ml0, cl0, es0, Nl0, rfl, rfl, pk00, pk01, pk02, pk03⟩ := hI
  refine sr ?_
  refine mv rfl rfl ?_
  refine asg rfl rfl ?_
  refine nl ?_
  refine sq ?_
  refine rgD 4 .nil mixed ?_
  refine dE 0 (by kernel_rfl) rfl ?_
  refine al Tryz.zeroValue4 rfl rfl (fun b_6 => ?_)
  refine dN .nil (Fz.le.refl _) ?_
  refine dE2 1 2 (by kernel_rfl) rfl rfl ?_ ?_
  ·
   refine st Tryz.sizeOf4 rfl rfl rfl rfl .head ?_
   refine dN .nil (Fz.le.refl _) ?_
   refine dE 2 (by kernel_rfl) rfl ?_
   refine st Tryz.sizeOf4 rfl rfl rfl rfl .head ?_
   refine dN .nil (Fz.le.refl _) ?_
   refine dE 3 (by kernel_rfl) rfl ?_
   refine ld (Says.own .head) Tryz.isAgg4 rfl (Nat.zero_add _).symm rfl rfl ?_
   refine dN .nil (Fz.le.refl _) ?_
   refine dD (by kernel_rfl) ?_
   refine drN .head ?_
   refine Nt ?_
   refine cF rfl ?_
   refine rgD 18 (.skip (.keep (.keep (.keep .nil)))) mixed ?_
   refine dT 0 rfl rfl rfl (by kernel_rfl) (fun _ _ _ h => h) (y_fa0 F37_3 rfl) (.skip (.keep (.keep (.keep .nil)))) (Fz.le.refl _) ?_
   refine dT 1 rfl rfl rfl (by kernel_rfl) (fun _ _ _ h => h) (y_ld (Says.own .head) Tryz.isAgg34 rfl (Nat.zero_add _).symm rfl) (.skip (.keep (.keep (.keep .nil)))) (Fz.le.refl _) ?_
   refine dT 2 rfl rfl rfl (by kernel_rfl) (fun _ _ _ h => h) (y_fa0 F37_3 rfl) (.skip (.keep (.keep (.keep .nil)))) (Fz.le.refl _) ?_
   refine dT 3 rfl rfl rfl (by kernel_rfl) (fun _ _ _ h => h) (y_ld (Says.own .head) Tryz.isAgg34 rfl (Nat.zero_add _).symm rfl) (.skip (.keep (.keep (.keep .nil)))) (Fz.le.refl _) ?_
   refine dT 4 rfl rfl rfl (by kernel_rfl) (fun _ _ _ h => h) (y_ix2 (j := 0) Tryz.runUnderlying34 Tryz.sizeOf37 rfl rfl rfl rfl (by decide)) (.skip (.keep (.keep (.keep .nil)))) (Fz.le.refl _) ?_
   refine dT 5 rfl rfl rfl (by kernel_rfl) (fun _ _ _ h => h) (y_fa F37_3 rfl) (.skip (.keep (.keep (.keep .nil)))) (Fz.le.refl _) ?_
   refine dT 6 rfl rfl rfl (by kernel_rfl) (fun _ _ _ h => h) (y_ld (Says.own (.tail .head)) Tryz.isAgg34 rfl (Nat.zero_add _).symm rfl) (.skip (.keep (.keep (.keep .nil)))) (Fz.le.refl _) ?_
   refine dT 7 rfl rfl rfl (by kernel_rfl) (fun _ _ _ h => h) (y_mv rfl) (.skip (.keep (.keep (.keep .nil)))) (Fz.le.refl _) ?_
   refine dT 8 rfl rfl rfl (by kernel_rfl) (fun _ _ _ h => h) (y_nc rfl) (.skip (.keep (.keep (.keep .nil)))) (Fz.le.refl _) ?_
   refine dT 9 rfl rfl rfl (by kernel_rfl) (fun _ _ _ h => h) (y_fa F296_0 rfl) (.skip (.keep (.keep (.keep .nil)))) (Fz.le.refl _) ?_
   refine dT 10 rfl rfl rfl (by kernel_rfl) (fun _ _ _ h => h) (y_ld (j := 0) (Says.fz (hb.mono le_4)) Tryz.isAgg294 rfl (Nat.add_zero _).symm rfl) (.skip (.keep (.keep (.keep .nil)))) (Fz.le.refl _) ?_
   refine dT 11 rfl rfl rfl (by kernel_rfl) (fun _ _ _ h => h) (y_mv rfl) (.skip (.keep (.keep (.keep .nil)))) (Fz.le.refl _) ?_
   obtain ⟨beq_7, oeq_7, haq_7, hlq_7⟩ := ((h1.mono At_ShareGroupDescribeResponseGroupMemberAssignmentTopicPartition.mono le_4)).rows.at_ (ne_nil_of_lt hk0)
   obtain ⟨ceq_7, hAq_7, hbq_7⟩ := hlq_7 k0 hk0
   refine dT 12 rfl rfl rfl (by kernel_rfl) (fun _ _ _ h => h) (y_ixk (j := k0) Tryz.runUnderlying294 Tryz.sizeOf302 rfl haq_7 rfl rfl hk0) (.skip (.keep (.keep (.keep .nil)))) (Fz.le.refl _) ?_
   refine dE 13 (by kernel_rfl) rfl ?_
   refine cl rfl rfl rfl (te_ShareGroupDescribeResponseGroupMemberAssignmentTopicPartition hbq_7 (At_ShareGroupDescribeResponseGroupMemberAssignmentTopicPartition.mono _ _ _ _ (Fz.le.refl _) hAq_7) ((hf.at 0).lTel (List.getElem_mem hk0))) rfl (fun v_ H1 L1 le_8 hR_ => ?_)
   obtain ⟨rfl, ct57, rfl, hT57⟩ := hR_
   refine dN (.skip (.keep (.keep (.keep .nil)))) le_8 ?_
   refine dE 14 (by kernel_rfl) rfl ?_
   refine bs' L34 rfl rfl rfl rfl (fun b_9 => ?_)
   refine dN (.skip (.skip (.keep (.keep (.keep .nil))))) le_8 ?_
   refine dE 15 (by kernel_rfl) rfl ?_
   have hmk : ml0 = k0 := by have h1 := congrArg List.length pk02; rw [List.length_map, List.length_map, List.length_take] at h1; omega
   have hmb := (hf.at 0).lTl
   refine ap (k := 1) (news := f5 ((ct57, tl_ShareGroupDescribeResponseGroupMemberAssignmentTopicPartition (lT (T.at 0))[k0]) : EE)) Tryz.underlying34 I37 rfl rfl pk00 (fun _ => (.tail .head)) (src_says Tryz.underlying34 rfl (fun _ => Says.own .head) (f5_one _)) (by omega) (by unfold maxLen; omega) rfl (fun a59 c59 N59 r59 z59 => ?_)
   rw [flatMap_snoc'] at r59
   refine dN (.skip (.skip (.keep (.keep (.keep .nil))))) le_8 ?_
   refine dE 16 (by kernel_rfl) rfl ?_
   refine ixk (j := 0) Tryz.runUnderlying34 Tryz.sizeOf37 rfl rfl rfl rfl (by decide) rfl ?_
   refine dN (.skip (.skip (.keep (.keep (.keep .nil))))) le_8 ?_
   refine dT 17 rfl rfl rfl (by kernel_rfl) (fun _ _ _ h => h) (y_fa F37_3 rfl) (.skip (.skip (.keep (.keep (.keep .nil))))) le_8 ?_
   refine dE 18 (by kernel_rfl) rfl ?_
   refine st Tryz.sizeOf34 rfl rfl rfl rfl (.tail (.tail (.tail .head))) ?_
   refine dNk (by kernel_rfl) ?_
   refine dD (by kernel_rfl) ?_
   refine Nb ?_
   refine drN .head ?_
   refine fun a_ w_ hA hw => ⟨_, _, _, hA.sub ?_, (le_4.trans le_8), hw, _, rfl, a59, (ml0 + 1), c59, (es0 ++ [((ct57, tl_ShareGroupDescribeResponseGroupMemberAssignmentTopicPartition (lT (T.at 0))[k0]) : EE)]), N59, rfl, rfl, r59, (by simp; omega), (map_take_snoc (g := tl_ShareGroupDescribeResponseGroupMemberAssignmentTopicPartition) hk0 pk02), (fun p hp => (mem_snoc hp).elim (fun h => (pk03 p h).mono le_8) (fun h => h ▸ hT57))⟩
   exact (.cons rfl (.cons rfl (.cons rfl (.cons rfl (.cons rfl (.nil _))))))
  ·
   refine st Tryz.sizeOf4 rfl rfl rfl rfl .head ?_
   refine dN .nil (Fz.le.refl _) ?_
   refine dE 1 (by kernel_rfl) rfl ?_
   refine st Tryz.sizeOf4 rfl rfl rfl rfl .head ?_
   refine dN .nil (Fz.le.refl _) ?_
   refine dE 3 (by kernel_rfl) rfl ?_
   refine ld (Says.own .head) Tryz.isAgg4 rfl (Nat.zero_add _).symm rfl rfl ?_
   refine dN .nil (Fz.le.refl _) ?_
   refine dD (by kernel_rfl) ?_
   refine drN .head ?_
   refine Nt ?_
   refine cT rfl ?_
   refine sq ?_
   refine rgD 17 (.skip (.keep (.keep (.keep .nil)))) mixed ?_
   refine dT 0 rfl rfl rfl (by kernel_rfl) (fun _ _ _ h => h) (y_fa0 F37_3 rfl) (.skip (.keep (.keep (.keep .nil)))) (Fz.le.refl _) ?_
   refine dT 1 rfl rfl rfl (by kernel_rfl) (fun _ _ _ h => h) (y_ld (Says.own .head) Tryz.isAgg34 rfl (Nat.zero_add _).symm rfl) (.skip (.keep (.keep (.keep .nil)))) (Fz.le.refl _) ?_
   refine dT 2 rfl rfl rfl (by kernel_rfl) (fun _ _ _ h => h) (y_ix2 (j := 0) Tryz.runUnderlying34 Tryz.sizeOf37 rfl rfl rfl rfl (by decide)) (.skip (.keep (.keep (.keep .nil)))) (Fz.le.refl _) ?_
   refine dT 3 rfl rfl rfl (by kernel_rfl) (fun _ _ _ h => h) (y_fa F37_3 rfl) (.skip (.keep (.keep (.keep .nil)))) (Fz.le.refl _) ?_
   refine dT 4 rfl rfl rfl (by kernel_rfl) (fun _ _ _ h => h) (y_ld (Says.own (.tail .head)) Tryz.isAgg34 rfl (Nat.zero_add _).symm rfl) (.skip (.keep (.keep (.keep .nil)))) (Fz.le.refl _) ?_
   refine dT 5 rfl rfl rfl (by kernel_rfl) (fun _ _ _ h => h) (y_mv rfl) (.skip (.keep (.keep (.keep .nil)))) (Fz.le.refl _) ?_
   refine dT 6 rfl rfl rfl (by kernel_rfl) (fun _ _ _ h => h) (y_nc rfl) (.skip (.keep (.keep (.keep .nil)))) (Fz.le.refl _) ?_
   refine dT 7 rfl rfl rfl (by kernel_rfl) (fun _ _ _ h => h) (y_fa F296_0 rfl) (.skip (.keep (.keep (.keep .nil)))) (Fz.le.refl _) ?_
   refine dT 8 rfl rfl rfl (by kernel_rfl) (fun _ _ _ h => h) (y_ld (j := 0) (Says.fz (hb.mono le_4)) Tryz.isAgg294 rfl (Nat.add_zero _).symm rfl) (.skip (.keep (.keep (.keep .nil)))) (Fz.le.refl _) ?_
   refine dT 9 rfl rfl rfl (by kernel_rfl) (fun _ _ _ h => h) (y_mv rfl) (.skip (.keep (.keep (.keep .nil)))) (Fz.le.refl _) ?_
   obtain ⟨beq_10, oeq_10, haq_10, hlq_10⟩ := ((h1.mono At_ShareGroupDescribeResponseGroupMemberAssignmentTopicPartition.mono le_4)).rows.at_ (ne_nil_of_lt hk0)
   obtain ⟨ceq_10, hAq_10, hbq_10⟩ := hlq_10 k0 hk0
   refine dT 10 rfl rfl rfl (by kernel_rfl) (fun _ _ _ h => h) (y_ixk (j := k0) Tryz.runUnderlying294 Tryz.sizeOf302 rfl haq_10 rfl rfl hk0) (.skip (.keep (.keep (.keep .nil)))) (Fz.le.refl _) ?_
   refine dT 12 rfl rfl rfl (by kernel_rfl) (fun _ _ _ h => h) (y_ls Tryz.runUnderlying34 rfl) (.skip (.keep (.keep (.keep .nil)))) (Fz.le.refl _) ?_
   refine dE2 11 13 (by kernel_rfl) rfl rfl ?_ ?_
   ·
    refine cl rfl rfl rfl (te_ShareGroupDescribeResponseGroupMemberAssignmentTopicPartition hbq_10 (At_ShareGroupDescribeResponseGroupMemberAssignmentTopicPartition.mono _ _ _ _ (Fz.le.refl _) hAq_10) ((hf.at 0).lTel (List.getElem_mem hk0))) rfl (fun v_ H1 L1 le_11 hR_ => ?_)
    obtain ⟨rfl, ct37, rfl, hT37⟩ := hR_
    refine dN (.skip (.keep (.keep (.keep .nil)))) le_11 ?_
    refine dE 13 (by kernel_rfl) rfl ?_
    refine bs' L34 rfl rfl rfl rfl (fun b_12 => ?_)
    refine dN (.skip (.skip (.keep (.keep (.keep .nil))))) le_11 ?_
    refine dE 14 (by kernel_rfl) rfl ?_
    have hmk : ml0 = k0 := by have h1 := congrArg List.length pk02; rw [List.length_map, List.length_map, List.length_take] at h1; omega
    have hmb := (hf.at 0).lTl
    refine ap (k := 1) (news := f5 ((TC.none, Tr.none) : EE)) Tryz.underlying34 I37 rfl rfl pk00 (fun _ => (.tail .head)) (src_says Tryz.underlying34 rfl (fun _ => Says.own .head) (f5_one _)) (by omega) (by unfold maxLen; omega) rfl (fun a40 c40 N40 r40 z40 => ?_)
    refine dN (.skip (.skip (.keep (.keep (.keep .nil))))) le_11 ?_
    refine dE 15 (by kernel_rfl) rfl ?_
    refine ixk (j := 0) Tryz.runUnderlying34 Tryz.sizeOf37 rfl rfl rfl rfl (by decide) rfl ?_
    refine dN (.skip (.skip (.keep (.keep (.keep .nil))))) le_11 ?_
    refine dT 16 rfl rfl rfl (by kernel_rfl) (fun _ _ _ h => h) (y_fa F37_3 rfl) (.skip (.skip (.keep (.keep (.keep .nil))))) le_11 ?_
    refine dE 17 (by kernel_rfl) rfl ?_
    refine st Tryz.sizeOf34 rfl rfl rfl rfl (.tail (.tail (.tail .head))) ?_
    refine dNk (by kernel_rfl) ?_
    refine dD (by kernel_rfl) ?_
    refine Nt ?_
    refine rg ?_
    obtain ⟨gg40, hgg40⟩ := r40.addr (by omega)
    refine ixk (j := ml0) Tryz.runUnderlying34 Tryz.sizeOf37 rfl hgg40 rfl rfl (by omega) rfl ?_
    refine sR (ds := f5 ((ct37, tl_ShareGroupDescribeResponseGroupMemberAssignmentTopicPartition (lT (T.at 0))[k0]) : EE)) r40 hgg40 (fun _ => (.tail .head)) Tryz.sizeOf37 rfl rfl rfl rfl (by omega) (fun N40b r40b => ?_)
    rw [row_put (k := 5) (m := ml0) (A := es0.flatMap f5) (by rw [flatMap_len f5 5 f5_len, pk01]) rfl, flatMap_snoc'] at r40b
    refine nN ?_
    refine Nb ?_
    refine drN .head ?_
    refine fun a_ w_ hA hw => ⟨_, _, _, hA.sub ?_, (le_4.trans le_11), hw, _, rfl, a40, (ml0 + 1), c40, (es0 ++ [((ct37, tl_ShareGroupDescribeResponseGroupMemberAssignmentTopicPartition (lT (T.at 0))[k0]) : EE)]), N40b, rfl, rfl, r40b, (by simp; omega), (map_take_snoc (g := tl_ShareGroupDescribeResponseGroupMemberAssignmentTopicPartition) hk0 pk02), (fun p hp => (mem_snoc hp).elim (fun h => (pk03 p h).mono le_11) (fun h => h ▸ hT37))⟩
    exact (.cons rfl (.cons rfl (.cons rfl (.cons rfl (.cons rfl (.nil _))))))
   ·
    refine bs' L34 rfl rfl rfl rfl (fun b_13 => ?_)
    refine dN (.skip (.skip (.keep (.keep (.keep .nil))))) (Fz.le.refl _) ?_
    refine dE 11 (by kernel_rfl) rfl ?_
    refine cl rfl rfl rfl (te_ShareGroupDescribeResponseGroupMemberAssignmentTopicPartition hbq_10 (At_ShareGroupDescribeResponseGroupMemberAssignmentTopicPartition.mono _ _ _ _ (Fz.le.refl _) hAq_10) ((hf.at 0).lTel (List.getElem_mem hk0))) rfl (fun v_ H1 L1 le_14 hR_ => ?_)
    obtain ⟨rfl, ct37, rfl, hT37⟩ := hR_
    refine dN (.skip (.skip (.keep (.keep (.keep .nil))))) le_14 ?_
    refine dE 14 (by kernel_rfl) rfl ?_
    have hmk : ml0 = k0 := by have h1 := congrArg List.length pk02; rw [List.length_map, List.length_map, List.length_take] at h1; omega
    have hmb := (hf.at 0).lTl
    refine ap (k := 1) (news := f5 ((TC.none, Tr.none) : EE)) Tryz.underlying34 I37 rfl rfl pk00 (fun _ => (.tail .head)) (src_says Tryz.underlying34 rfl (fun _ => Says.own .head) (f5_one _)) (by omega) (by unfold maxLen; omega) rfl (fun a40 c40 N40 r40 z40 => ?_)
    refine dN (.skip (.skip (.keep (.keep (.keep .nil))))) le_14 ?_
    refine dE 15 (by kernel_rfl) rfl ?_
    refine ixk (j := 0) Tryz.runUnderlying34 Tryz.sizeOf37 rfl rfl rfl rfl (by decide) rfl ?_
    refine dN (.skip (.skip (.keep (.keep (.keep .nil))))) le_14 ?_
    refine dT 16 rfl rfl rfl (by kernel_rfl) (fun _ _ _ h => h) (y_fa F37_3 rfl) (.skip (.skip (.keep (.keep (.keep .nil))))) le_14 ?_
    refine dE 17 (by kernel_rfl) rfl ?_
    refine st Tryz.sizeOf34 rfl rfl rfl rfl (.tail (.tail (.tail .head))) ?_
    refine dNk (by kernel_rfl) ?_
    refine dD (by kernel_rfl) ?_
    refine Nt ?_
    refine rg ?_
    obtain ⟨gg40, hgg40⟩ := r40.addr (by omega)
    refine ixk (j := ml0) Tryz.runUnderlying34 Tryz.sizeOf37 rfl hgg40 rfl rfl (by omega) rfl ?_
    refine sR (ds := f5 ((ct37, tl_ShareGroupDescribeResponseGroupMemberAssignmentTopicPartition (lT (T.at 0))[k0]) : EE)) r40 hgg40 (fun _ => (.tail .head)) Tryz.sizeOf37 rfl rfl rfl rfl (by omega) (fun N40b r40b => ?_)
    rw [row_put (k := 5) (m := ml0) (A := es0.flatMap f5) (by rw [flatMap_len f5 5 f5_len, pk01]) rfl, flatMap_snoc'] at r40b
    refine nN ?_
    refine Nb ?_
    refine drN .head ?_
    refine fun a_ w_ hA hw => ⟨_, _, _, hA.sub ?_, (le_4.trans le_14), hw, _, rfl, a40, (ml0 + 1), c40, (es0 ++ [((ct37, tl_ShareGroupDescribeResponseGroupMemberAssignmentTopicPartition (lT (T.at 0))[k0]) : EE)]), N40b, rfl, rfl, r40b, (by simp; omega), (map_take_snoc (g := tl_ShareGroupDescribeResponseGroupMemberAssignmentTopicPartition) hk0 pk02), (fun p hp => (mem_snoc hp).elim (fun h => (pk03 p h).mono le_14) (fun h => h ▸ hT37))⟩
    exact (.cons rfl (.cons rfl (.cons rfl (.cons rfl (.cons rfl (.nil _))))))
 ·
  obtain ⟨al0, ml0, cl0, es0, Nl0, rfl, rfl, pk00, pk01, pk02, pk03⟩ := hI
  refine toWp ?_
  have hes0 : es0.map (·.2) = (lT (T.at 0)).map tl_ShareGroupDescribeResponseGroupMemberAssignmentTopicPartition := by rw [pk02, List.take_length]
  have hm0 : ml0 = ((lT (T.at 0)).map tl_ShareGroupDescribeResponseGroupMemberAssignmentTopicPartition).length := by rw [← hes0, List.length_map]; exact pk01
  refine frW pk00 .head (fun Hl0 hll0 hzl0 => ?_)
  have ht0 := TreesAt.row hzl0 pk01 pk00.le.1 (by have h1 := congrArg List.length hes0; rw [List.length_map, List.length_map] at h1; unfold B47; omega) (fun p hp => (pk03 p hp).mono hll0)
  rw [hes0] at ht0
  subst hm0
  refine sr ?_
  refine mv rfl rfl ?_
  refine nc rfl rfl ?_
  refine fa F296_1 rfl rfl ?_
  refine mkf rfl rfl ?_
  have hkv_ := (h2.mono (le_5.trans hll0))
  obtain ⟨kvs, hM, hlen, hel⟩ := hkv_
  have hfu := hf.u
  refine cl rfl rfl rfl (t_each (j := 1) (I := fun i H1 Y => TgI 72 b_3 37 (.int .i64 0) (.slice none 0 0) (.bool false) (_) T.u i H1 Y) (hb.mono (le_5.trans hll0)) rfl hM (by omega) (fun i H1 H2 Y hle h => h.mono hle) TgI.start (fun i k v H1 Y L1 hi hle hI => ?_)) rfl (fun v_ H1 L1 le_16 hR_ => ?_)
  ·
   obtain ⟨s, h1, ⟨va, vc, rfl, hx⟩, h2, h3⟩ := hel i k v hi
   have hik := sortKv_lt hi
   exact TgI.step (fun {_ _ _ _ _ _ _ _ _ _ _ _ _ _ _ _} => tc_344) hf.v (by omega) h1 (hx.mono hle) h2 h3 hI
  rw [hlen] at hR_
  obtain ⟨_, rfl, aU, cU, NU, esU, rfl, hrU, heU, hgU⟩ := hR_
  refine splL ?_
  rw [List.take_length] at heU
  refine frL hrU (.tail .head) (fun HU hleU hzU => ?_)
  have hU := (TagsAt.told hzU hrU heU hfu (fun p hp => (hgU p hp).mono hleU)).1
  refine nl ?_
  refine sr ?_
  refine fa0 F37_4 rfl rfl ?_
  refine ld (Says.own .head) Tryz.isAgg35 rfl (Nat.zero_add _).symm rfl rfl ?_
  refine cl rfl rfl rfl (k_sorted hU (h2.mono (le_5.trans (hll0.trans (le_16.trans hleU)))).rise) rfl (fun v_ H1 L1 hle_ hR_ => ?_)
  obtain ⟨rfl, rfl⟩ := hR_
  refine nl ?_
  refine sr ?_
  refine la (Says.own .head) Tryz.isAgg37 Tryz.sizeOf37 rfl (Nat.zero_add _).symm rfl rfl ?_
  refine sa Tryz.sizeOf37 rfl rfl rfl rfl rfl (.tail (.tail .head)) ?_
  refine nl ?_
  refine drW .head ?_
  refine frW (Row.whole (e := 37) (size := 5) (m := 1) (ds := [.int .i64 0, .slice none 0 0, .bool a0.isNone, .slice al0 ((lT (T.at 0)).map tl_ShareGroupDescribeResponseGroupMemberAssignmentTopicPartition).length cl0, .slice none 0 0]) rfl (by unfold maxLen; omega)) .head (fun H9 hle9 hz9 => ?_)
  have hrb : H9.at b_2 0 [.int .i64 0, .slice none 0 0, .bool a0.isNone, .slice al0 ((lT (T.at 0)).map tl_ShareGroupDescribeResponseGroupMemberAssignmentTopicPartition).length cl0, .slice none 0 0] := by
   rcases hz9 with ⟨h, _⟩ | ⟨g, h, h2⟩
   · cases h
   · cases h; exact h2
  rw [(h1).nul] at hrb
  have hrb2 : H9.at b_2 0 (([((⟨none, 0, al0, cl0, none, 0⟩ : TC), (Tr.mk 0 [] (T.at 0).nul ((lT (T.at 0)).map tl_ShareGroupDescribeResponseGroupMemberAssignmentTopicPartition) [] : Tr))] : List EE).flatMap fun p => p.1.cells p.2) := by exact hrb
  have hl9 : TreesAt H9 (some ⟨b_2, 0, none⟩) 1 [(.mk 0 [] (T.at 0).nul ((lT (T.at 0)).map tl_ShareGroupDescribeResponseGroupMemberAssignmentTopicPartition) [])] := by
   refine TreesAt.row (es := [((⟨none, 0, al0, cl0, none, 0⟩ : TC), (Tr.mk 0 [] (T.at 0).nul ((lT (T.at 0)).map tl_ShareGroupDescribeResponseGroupMemberAssignmentTopicPartition) [] : Tr))]) (.inr ⟨_, rfl, hrb2⟩) rfl (Nat.le_refl _) (Nat.le_of_ble_eq_true rfl) ?_
   intro p hp
   simp only [List.mem_cons, List.not_mem_nil, or_false] at hp
   rcases hp with rfl
   · exact (.of (.nil _) (ht0.mono (le_16.trans (hleU.trans hle9))) (.nil _))
  exact rC rfl Tryz.isAgg37 Tryz.sizeOf37 rfl .head rfl (le_5.trans (hll0.trans (le_16.trans (hleU.trans hle9)))) (fun _ _ h => h) ⟨rfl, ⟨none, 0, some ⟨b_2, 0, none⟩, 1, aU, cU⟩, rfl, .of (.nil _) hl9 (hU.mono hle9)⟩
def tl_ShareGroupDescribeResponseGroupMember (T : Tr) : Tr := .mk 0 [] false [(.mk 0 (T.at 0).s false [] []), (.mk 0 (sT (T.at 1)) (T.at 1).nul [] []), (.mk (IntKind.i32.wrap (T.at 2).n) [] false [] []), (.mk 0 (T.at 3).s false [] []), (.mk 0 (T.at 4).s false [] []), (.mk 0 [] (T.at 5).nul ((lT (T.at 5)).map (fun y : Tr => (Tr.mk 0 y.s false [] [] : Tr))) []), (tl_ShareGroupDescribeResponseGroupMemberAssignment (T.at 6))] T.u
theorem te_ShareGroupDescribeResponseGroupMember {H : Fz} {L : Own} {b o : Nat} {cs : List Value} {T : Tr} (hb : H.at b o cs) (hA : At_ShareGroupDescribeResponseGroupMember H T cs) (hf : Fits T) :
  Fn Tryz.prog 277 [.pointer (some ⟨b, o, none⟩)] H L (fun v H' L' => L = L' ∧ ∃ c : TC, v = .agg (c.cells (tl_ShareGroupDescribeResponseGroupMember T)).toArray ∧ TreeAt H' c (tl_ShareGroupDescribeResponseGroupMember T)) := by
 obtain ⟨p1, a5, c5, a6_0, c6_0, m6_t, mt, rfl, h1, h2, h3, h4, h5⟩ := hA
 refine Fn.mk Tryz.call277 Tryz.func277 rfl Tryz.ntmps277 rfl ?_
 refine sr ?_
 refine al Tryz.zeroValue37 rfl rfl (fun b_1 => ?_)
 refine nl ?_
 refine sr ?_
 refine mkC (m := 7) (zs := [.int .i64 0, .slice none 0 0, .bool false, .slice none 0 0, .slice none 0 0]) Tryz.underlying34 I37 rfl rfl rfl rfl rfl rfl (by decide) (by unfold maxLen; omega) rfl (fun b_2 => ?_)
 refine bd' S37 rfl rfl rfl ?_
 refine al Tryz.zeroValue37 rfl rfl (fun b_3 => ?_)
 refine sa Tryz.sizeOf37 rfl rfl rfl rfl rfl .head ?_
 refine nl ?_
 refine sq ?_
 refine rgD 9 (.keep (.keep (.keep .nil))) mixed ?_
 refine dT 0 rfl rfl rfl (by kernel_rfl) (fun _ _ _ h => h) (y_fa0 F37_3 rfl) (.keep (.keep (.keep .nil))) (Fz.le.refl _) ?_
 refine dT 1 rfl rfl rfl (by kernel_rfl) (fun _ _ _ h => h) (y_ld (Says.own .head) Tryz.isAgg34 rfl (Nat.zero_add _).symm rfl) (.keep (.keep (.keep .nil))) (Fz.le.refl _) ?_
 refine dT 2 rfl rfl rfl (by kernel_rfl) (fun _ _ _ h => h) (y_mv rfl) (.keep (.keep (.keep .nil))) (Fz.le.refl _) ?_
 refine dT 3 rfl rfl rfl (by kernel_rfl) (fun _ _ _ h => h) (y_nc rfl) (.keep (.keep (.keep .nil))) (Fz.le.refl _) ?_
 refine dT 4 rfl rfl rfl (by kernel_rfl) (fun _ _ _ h => h) (y_fa F298_0 rfl) (.keep (.keep (.keep .nil))) (Fz.le.refl _) ?_
 refine dT 5 rfl rfl rfl (by kernel_rfl) (fun _ _ _ h => h) (y_ld (j := 0) (Says.fz hb) Tryz.isAgg9 rfl (Nat.add_zero _).symm rfl) (.keep (.keep (.keep .nil))) (Fz.le.refl _) ?_
 refine dE 6 (by kernel_rfl) rfl ?_
 refine csb Tryz.underlying9 Tryz.underlying22 Tryz.underlying5 rfl (by have := (hf.at 0).s; unfold B47; omega) rfl (fun Hb13 b13 cp13 le_4 hb13 => ?_)
 refine dN (.keep (.keep (.keep .nil))) le_4 ?_
 refine dT 7 rfl rfl rfl (by kernel_rfl) (fun _ _ _ h => h) (y_bd S37 rfl rfl) (.keep (.keep (.keep .nil))) le_4 ?_
 refine dT 8 rfl rfl rfl (by kernel_rfl) (fun _ _ _ h => h) (y_ix2 (j := 0) Tryz.runUnderlying34 Tryz.sizeOf37 rfl rfl rfl rfl (by decide)) (.keep (.keep (.keep .nil))) le_4 ?_
 refine dE 9 (by kernel_rfl) rfl ?_
 refine sa Tryz.sizeOf37 rfl rfl rfl rfl rfl (.tail .head) ?_
 refine dNk (by kernel_rfl) ?_
 refine dD (by kernel_rfl) ?_
 refine Nt ?_
 refine sq ?_
 refine rgD 8 (.keep (.keep (.keep .nil))) mixed ?_
 refine dT 0 rfl rfl rfl (by kernel_rfl) (fun _ _ _ h => h) (y_fa0 F37_3 rfl) (.keep (.keep (.keep .nil))) (Fz.le.refl _) ?_
 refine dT 1 rfl rfl rfl (by kernel_rfl) (fun _ _ _ h => h) (y_ld (Says.own .head) Tryz.isAgg34 rfl (Nat.zero_add _).symm rfl) (.keep (.keep (.keep .nil))) (Fz.le.refl _) ?_
 refine dT 2 rfl rfl rfl (by kernel_rfl) (fun _ _ _ h => h) (y_mv rfl) (.keep (.keep (.keep .nil))) (Fz.le.refl _) ?_
 refine dT 3 rfl rfl rfl (by kernel_rfl) (fun _ _ _ h => h) (y_nc rfl) (.keep (.keep (.keep .nil))) (Fz.le.refl _) ?_
 refine dT 4 rfl rfl rfl (by kernel_rfl) (fun _ _ _ h => h) (y_fa F298_1 rfl) (.keep (.keep (.keep .nil))) (Fz.le.refl _) ?_
 refine dT 5 rfl rfl rfl (by kernel_rfl) (fun _ _ _ h => h) (y_ld (j := 1) (Says.fz (hb.mono le_4)) Tryz.isAgg131 rfl rfl rfl) (.keep (.keep (.keep .nil))) (Fz.le.refl _) ?_
 refine dE 6 (by kernel_rfl) rfl ?_
 refine cl rfl rfl rfl (k_textTree (h1.mono le_4) (hf.at 1)) rfl (fun v_ H1 L1 le_5 hR_ => ?_)
 obtain ⟨rfl, ct22, rfl, hT22⟩ := hR_
 refine dN (.keep (.keep (.keep .nil))) le_5 ?_
 refine dT 7 rfl rfl rfl (by kernel_rfl) (fun _ _ _ h => h) (y_ix2 (j := 1) Tryz.runUnderlying34 Tryz.sizeOf37 rfl rfl rfl rfl (by decide)) (.keep (.keep (.keep .nil))) le_5 ?_
 refine dE 8 (by kernel_rfl) rfl ?_
 refine sa Tryz.sizeOf37 rfl rfl rfl rfl rfl (.tail .head) ?_
 refine dNk (by kernel_rfl) ?_
 refine dD (by kernel_rfl) ?_
 refine Nt ?_
 refine sq ?_
 refine rgD 9 (.keep (.keep (.keep .nil))) mixed ?_
 refine dT 0 rfl rfl rfl (by kernel_rfl) (fun _ _ _ h => h) (y_fa0 F37_3 rfl) (.keep (.keep (.keep .nil))) (Fz.le.refl _) ?_
 refine dT 1 rfl rfl rfl (by kernel_rfl) (fun _ _ _ h => h) (y_ld (Says.own .head) Tryz.isAgg34 rfl (Nat.zero_add _).symm rfl) (.keep (.keep (.keep .nil))) (Fz.le.refl _) ?_
 refine dT 2 rfl rfl rfl (by kernel_rfl) (fun _ _ _ h => h) (y_mv rfl) (.keep (.keep (.keep .nil))) (Fz.le.refl _) ?_
 refine dT 3 rfl rfl rfl (by kernel_rfl) (fun _ _ _ h => h) (y_nc rfl) (.keep (.keep (.keep .nil))) (Fz.le.refl _) ?_
 refine dT 4 rfl rfl rfl (by kernel_rfl) (fun _ _ _ h => h) (y_fa F298_2 rfl) (.keep (.keep (.keep .nil))) (Fz.le.refl _) ?_
 refine dT 5 rfl rfl rfl (by kernel_rfl) (fun _ _ _ h => h) (y_ld (j := 2) (Says.fz (hb.mono (le_4.trans le_5))) Tryz.isAgg21 rfl rfl rfl) (.keep (.keep (.keep .nil))) (Fz.le.refl _) ?_
 refine dT 6 rfl rfl rfl (by kernel_rfl) (fun _ _ _ h => h) (y_cv Tryz.runUnderlying21 Tryz.runUnderlying2 rfl (i32_64 _)) (.keep (.keep (.keep .nil))) (Fz.le.refl _) ?_
 refine dT 7 rfl rfl rfl (by kernel_rfl) (fun _ _ _ h => h) (y_bd S37 rfl rfl) (.keep (.keep (.keep .nil))) (Fz.le.refl _) ?_
 refine dT 8 rfl rfl rfl (by kernel_rfl) (fun _ _ _ h => h) (y_ix2 (j := 2) Tryz.runUnderlying34 Tryz.sizeOf37 rfl rfl rfl rfl (by decide)) (.keep (.keep (.keep .nil))) (Fz.le.refl _) ?_
 refine dE 9 (by kernel_rfl) rfl ?_
 refine sa Tryz.sizeOf37 rfl rfl rfl rfl rfl (.tail .head) ?_
 refine dNk (by kernel_rfl) ?_
 refine dD (by kernel_rfl) ?_
 refine Nt ?_
 refine sq ?_
 refine rgD 9 (.keep (.keep (.keep .nil))) mixed ?_
 refine dT 0 rfl rfl rfl (by kernel_rfl) (fun _ _ _ h => h) (y_fa0 F37_3 rfl) (.keep (.keep (.keep .nil))) (Fz.le.refl _) ?_
 refine dT 1 rfl rfl rfl (by kernel_rfl) (fun _ _ _ h => h) (y_ld (Says.own .head) Tryz.isAgg34 rfl (Nat.zero_add _).symm rfl) (.keep (.keep (.keep .nil))) (Fz.le.refl _) ?_
 refine dT 2 rfl rfl rfl (by kernel_rfl) (fun _ _ _ h => h) (y_mv rfl) (.keep (.keep (.keep .nil))) (Fz.le.refl _) ?_
 refine dT 3 rfl rfl rfl (by kernel_rfl) (fun _ _ _ h => h) (y_nc rfl) (.keep (.keep (.keep .nil))) (Fz.le.refl _) ?_
 refine dT 4 rfl rfl rfl (by kernel_rfl) (fun _ _ _ h => h) (y_fa F298_3 rfl) (.keep (.keep (.keep .nil))) (Fz.le.refl _) ?_
 refine dT 5 rfl rfl rfl (by kernel_rfl) (fun _ _ _ h => h) (y_ld (j := 3) (Says.fz (hb.mono (le_4.trans le_5))) Tryz.isAgg9 rfl rfl rfl) (.keep (.keep (.keep .nil))) (Fz.le.refl _) ?_
 refine dE 6 (by kernel_rfl) rfl ?_
 refine csb Tryz.underlying9 Tryz.underlying22 Tryz.underlying5 rfl (by have := (hf.at 3).s; unfold B47; omega) rfl (fun Hb39 b39 cp39 le_6 hb39 => ?_)
 refine dN (.keep (.keep (.keep .nil))) le_6 ?_
 refine dT 7 rfl rfl rfl (by kernel_rfl) (fun _ _ _ h => h) (y_bd S37 rfl rfl) (.keep (.keep (.keep .nil))) le_6 ?_
 refine dT 8 rfl rfl rfl (by kernel_rfl) (fun _ _ _ h => h) (y_ix2 (j := 3) Tryz.runUnderlying34 Tryz.sizeOf37 rfl rfl rfl rfl (by decide)) (.keep (.keep (.keep .nil))) le_6 ?_
 refine dE 9 (by kernel_rfl) rfl ?_
 refine sa Tryz.sizeOf37 rfl rfl rfl rfl rfl (.tail .head) ?_
 refine dNk (by kernel_rfl) ?_
 refine dD (by kernel_rfl) ?_
 refine Nt ?_
 refine sq ?_
 refine rgD 9 (.keep (.keep (.keep .nil))) mixed ?_
 refine dT 0 rfl rfl rfl (by kernel_rfl) (fun _ _ _ h => h) (y_fa0 F37_3 rfl) (.keep (.keep (.keep .nil))) (Fz.le.refl _) ?_
 refine dT 1 rfl rfl rfl (by kernel_rfl) (fun _ _ _ h => h) (y_ld (Says.own .head) Tryz.isAgg34 rfl (Nat.zero_add _).symm rfl) (.keep (.keep (.keep .nil))) (Fz.le.refl _) ?_
 refine dT 2 rfl rfl rfl (by kernel_rfl) (fun _ _ _ h => h) (y_mv rfl) (.keep (.keep (.keep .nil))) (Fz.le.refl _) ?_
 refine dT 3 rfl rfl rfl (by kernel_rfl) (fun _ _ _ h => h) (y_nc rfl) (.keep (.keep (.keep .nil))) (Fz.le.refl _) ?_
 refine dT 4 rfl rfl rfl (by kernel_rfl) (fun _ _ _ h => h) (y_fa F298_4 rfl) (.keep (.keep (.keep .nil))) (Fz.le.refl _) ?_
 refine dT 5 rfl rfl rfl (by kernel_rfl) (fun _ _ _ h => h) (y_ld (j := 4) (Says.fz (hb.mono (le_4.trans (le_5.trans le_6)))) Tryz.isAgg9 rfl rfl rfl) (.keep (.keep (.keep .nil))) (Fz.le.refl _) ?_
 refine dE 6 (by kernel_rfl) rfl ?_
 refine csb Tryz.underlying9 Tryz.underlying22 Tryz.underlying5 rfl (by have := (hf.at 4).s; unfold B47; omega) rfl (fun Hb48 b48 cp48 le_7 hb48 => ?_)
 refine dN (.keep (.keep (.keep .nil))) le_7 ?_
 refine dT 7 rfl rfl rfl (by kernel_rfl) (fun _ _ _ h => h) (y_bd S37 rfl rfl) (.keep (.keep (.keep .nil))) le_7 ?_
 refine dT 8 rfl rfl rfl (by kernel_rfl) (fun _ _ _ h => h) (y_ix2 (j := 4) Tryz.runUnderlying34 Tryz.sizeOf37 rfl rfl rfl rfl (by decide)) (.keep (.keep (.keep .nil))) le_7 ?_
 refine dE 9 (by kernel_rfl) rfl ?_
 refine sa Tryz.sizeOf37 rfl rfl rfl rfl rfl (.tail .head) ?_
 refine dNk (by kernel_rfl) ?_
 refine dD (by kernel_rfl) ?_
 refine Nt ?_
 refine sq ?_
 refine rgD 9 (.keep (.keep (.keep .nil))) mixed ?_
 refine dT 0 rfl rfl rfl (by kernel_rfl) (fun _ _ _ h => h) (y_fa0 F37_3 rfl) (.keep (.keep (.keep .nil))) (Fz.le.refl _) ?_
 refine dT 1 rfl rfl rfl (by kernel_rfl) (fun _ _ _ h => h) (y_ld (Says.own .head) Tryz.isAgg34 rfl (Nat.zero_add _).symm rfl) (.keep (.keep (.keep .nil))) (Fz.le.refl _) ?_
 refine dT 2 rfl rfl rfl (by kernel_rfl) (fun _ _ _ h => h) (y_mv rfl) (.keep (.keep (.keep .nil))) (Fz.le.refl _) ?_
 refine dT 3 rfl rfl rfl (by kernel_rfl) (fun _ _ _ h => h) (y_nc rfl) (.keep (.keep (.keep .nil))) (Fz.le.refl _) ?_
 refine dT 4 rfl rfl rfl (by kernel_rfl) (fun _ _ _ h => h) (y_fa F298_5 rfl) (.keep (.keep (.keep .nil))) (Fz.le.refl _) ?_
 refine dT 5 rfl rfl rfl (by kernel_rfl) (fun _ _ _ h => h) (y_ld (j := 5) (Says.fz (hb.mono (le_4.trans (le_5.trans (le_6.trans le_7))))) Tryz.isAgg203 rfl rfl rfl) (.keep (.keep (.keep .nil))) (Fz.le.refl _) ?_
 refine dT 6 rfl rfl rfl (by kernel_rfl) (fun _ _ _ h => h) (y_esn Tryz.underlying203 rfl) (.keep (.keep (.keep .nil))) (Fz.le.refl _) ?_
 refine dE 7 (by kernel_rfl) rfl ?_
 refine ixk (j := 5) Tryz.runUnderlying34 Tryz.sizeOf37 rfl rfl rfl rfl (by decide) rfl ?_
 refine dN (.keep (.keep (.keep .nil))) (Fz.le.refl _) ?_
 refine dT 8 rfl rfl rfl (by kernel_rfl) (fun _ _ _ h => h) (y_fa F37_2 rfl) (.keep (.keep (.keep .nil))) (Fz.le.refl _) ?_
 refine dE 9 (by kernel_rfl) rfl ?_
 refine st Tryz.sizeOf4 rfl rfl rfl rfl (.tail .head) ?_
 refine dNk (by kernel_rfl) ?_
 refine dD (by kernel_rfl) ?_
 refine Nt ?_
 refine sq ?_
 refine sr ?_
 refine mv rfl rfl ?_
 refine nc rfl rfl ?_
 refine fa F298_5 rfl rfl ?_
 refine ld (Says.fz (hb.mono (le_4.trans (le_5.trans (le_6.trans le_7))))) Tryz.isAgg203 rfl rfl rfl rfl ?_
 refine ls Tryz.runUnderlying203 rfl rfl ?_
 refine mv rfl rfl ?_
 refine nl ?_
 have hlm5 := (hf.at 5).lTl
 refine nulC2 ?_
 refine fr ((lT (T.at 5)).length) (fun k5 l' H' L' => ∃ (al5 : Option Addr), ∃ (ml5 : Nat), ∃ (cl5 : Nat), ∃ (es5 : List EE), ∃ (Nl5 : Chunk), [(0, .pointer (some ⟨b, o, none⟩)), (2, .pointer (some ⟨b_1, 0, none⟩)), (3, .pointer (some ⟨b_3, 0, none⟩)), (64, .int .i64 ((lT (T.at 5)).length : Int))] = l' ∧ Nl5 :: [(b_3, .cells [.int .i64 0, .slice none 0 0, .bool false, _, .slice none 0 0].toArray 37 (0, 0))] :: [(b_2, .cells [.int .i64 0, .slice (some ⟨b13, 0, none⟩) (T.at 0).s.length cp13, .bool false, .slice none 0 0, .slice none 0 0, .int .i64 0, .slice ct22.sa (sT (T.at 1)).length ct22.sc, .bool (T.at 1).nul, .slice ct22.la 0 ct22.lc, .slice ct22.ua 0 ct22.uc, .int .i64 (IntKind.i32.wrap (T.at 2).n), .slice none 0 0, .bool false, .slice none 0 0, .slice none 0 0, .int .i64 0, .slice (some ⟨b39, 0, none⟩) (T.at 3).s.length cp39, .bool false, .slice none 0 0, .slice none 0 0, .int .i64 0, .slice (some ⟨b48, 0, none⟩) (T.at 4).s.length cp48, .bool false, .slice none 0 0, .slice none 0 0, .int .i64 0, .slice none 0 0, .bool a5.isNone, .slice al5 ml5 cl5, .slice none 0 0, .int .i64 0, .slice none 0 0, .bool false, .slice none 0 0, .slice none 0 0].toArray 37 (0, 0))] :: [(b_1, .cells [.int .i64 0, .slice none 0 0, .bool false, .slice none 0 0, .slice none 0 0].toArray 37 (0, 0))] :: L = L' ∧ Row 37 5 al5 ml5 cl5 (es5.flatMap f5) Nl5 ∧ ml5 = es5.length ∧ es5.map (·.2) = ((lT (T.at 5)).take k5).map (fun y : Tr => (Tr.mk 0 y.s false [] [] : Tr)) ∧ (∀ p : EE, p ∈ es5 → TreeAt H' p.1 p.2)) [(0, .pointer (some ⟨b, o, none⟩)), (2, .pointer (some ⟨b_1, 0, none⟩)), (3, .pointer (some ⟨b_3, 0, none⟩)), (64, .int .i64 ((lT (T.at 5)).length : Int))] (fun k5 l' H' L' h => ?_) (by omega) rfl (.cons rfl (.cons rfl (.cons rfl (.cons rfl (.nil _))))) ⟨none, 0, 0, [], [], rfl, rfl, (Row.nil _ _), rfl, (by simp), (fun p hp => by cases hp)⟩ rfl rfl rfl rfl rfl (fun k5 l' H' L' hk5 le_8 hI => ?_) (fun l' H' L' le_9 hI => ?_)
 · obtain ⟨al5, ml5, cl5, es5, Nl5, rfl, _⟩ := h; exact ⟨rfl, rfl, rfl, rfl⟩
 ·
  obtain ⟨al5, ml5, cl5, es5, Nl5, rfl, rfl, pk50, pk51, pk52, pk53⟩ := hI
  refine sr ?_
  refine mv rfl rfl ?_
  refine asg rfl rfl ?_
  refine nl ?_
  refine sq ?_
  refine rgD 4 .nil mixed ?_
  refine dE 0 (by kernel_rfl) rfl ?_
  refine al Tryz.zeroValue4 rfl rfl (fun b_10 => ?_)
  refine dN .nil (Fz.le.refl _) ?_
  refine dE2 1 2 (by kernel_rfl) rfl rfl ?_ ?_
  ·
   refine st Tryz.sizeOf4 rfl rfl rfl rfl .head ?_
   refine dN .nil (Fz.le.refl _) ?_
   refine dE 2 (by kernel_rfl) rfl ?_
   refine st Tryz.sizeOf4 rfl rfl rfl rfl .head ?_
   refine dN .nil (Fz.le.refl _) ?_
   refine dE 3 (by kernel_rfl) rfl ?_
   refine ld (Says.own .head) Tryz.isAgg4 rfl (Nat.zero_add _).symm rfl rfl ?_
   refine dN .nil (Fz.le.refl _) ?_
   refine dD (by kernel_rfl) ?_
   refine drN .head ?_
   refine Nt ?_
   refine cF rfl ?_
   refine rgD 20 (.skip (.keep (.keep (.keep .nil)))) mixed ?_
   refine dT 0 rfl rfl rfl (by kernel_rfl) (fun _ _ _ h => h) (y_fa0 F37_3 rfl) (.skip (.keep (.keep (.keep .nil)))) (Fz.le.refl _) ?_
   refine dT 1 rfl rfl rfl (by kernel_rfl) (fun _ _ _ h => h) (y_ld (Says.own .head) Tryz.isAgg34 rfl (Nat.zero_add _).symm rfl) (.skip (.keep (.keep (.keep .nil)))) (Fz.le.refl _) ?_
   refine dT 2 rfl rfl rfl (by kernel_rfl) (fun _ _ _ h => h) (y_fa0 F37_3 rfl) (.skip (.keep (.keep (.keep .nil)))) (Fz.le.refl _) ?_
   refine dT 3 rfl rfl rfl (by kernel_rfl) (fun _ _ _ h => h) (y_ld (Says.own .head) Tryz.isAgg34 rfl (Nat.zero_add _).symm rfl) (.skip (.keep (.keep (.keep .nil)))) (Fz.le.refl _) ?_
   refine dT 4 rfl rfl rfl (by kernel_rfl) (fun _ _ _ h => h) (y_ix2 (j := 5) Tryz.runUnderlying34 Tryz.sizeOf37 rfl rfl rfl rfl (by decide)) (.skip (.keep (.keep (.keep .nil)))) (Fz.le.refl _) ?_
   refine dT 5 rfl rfl rfl (by kernel_rfl) (fun _ _ _ h => h) (y_fa F37_3 rfl) (.skip (.keep (.keep (.keep .nil)))) (Fz.le.refl _) ?_
   refine dT 6 rfl rfl rfl (by kernel_rfl) (fun _ _ _ h => h) (y_ld (Says.own (.tail .head)) Tryz.isAgg34 rfl (Nat.zero_add _).symm rfl) (.skip (.keep (.keep (.keep .nil)))) (Fz.le.refl _) ?_
   refine dT 7 rfl rfl rfl (by kernel_rfl) (fun _ _ _ h => h) (y_mv rfl) (.skip (.keep (.keep (.keep .nil)))) (Fz.le.refl _) ?_
   refine dT 8 rfl rfl rfl (by kernel_rfl) (fun _ _ _ h => h) (y_nc rfl) (.skip (.keep (.keep (.keep .nil)))) (Fz.le.refl _) ?_
   refine dT 9 rfl rfl rfl (by kernel_rfl) (fun _ _ _ h => h) (y_fa F298_5 rfl) (.skip (.keep (.keep (.keep .nil)))) (Fz.le.refl _) ?_
   refine dT 10 rfl rfl rfl (by kernel_rfl) (fun _ _ _ h => h) (y_ld (j := 5) (Says.fz (hb.mono (le_4.trans (le_5.trans (le_6.trans (le_7.trans le_8)))))) Tryz.isAgg203 rfl rfl rfl) (.skip (.keep (.keep (.keep .nil)))) (Fz.le.refl _) ?_
   refine dT 11 rfl rfl rfl (by kernel_rfl) (fun _ _ _ h => h) (y_mv rfl) (.skip (.keep (.keep (.keep .nil)))) (Fz.le.refl _) ?_
   obtain ⟨beq_11, oeq_11, haq_11, hlq_11⟩ := ((h2.mono RText.mono (le_4.trans (le_5.trans (le_6.trans (le_7.trans le_8)))))).rows.at_ (ne_nil_of_lt hk5)
   obtain ⟨ceq_11, hAq_11, hbq_11⟩ := hlq_11 k5 hk5
   obtain rfl : ceq_11 = [.string ⟨((lT (T.at 5))[k5]).s.toArray⟩] := hAq_11
   refine dT 12 rfl rfl rfl (by kernel_rfl) (fun _ _ _ h => h) (y_ixk (j := k5) Tryz.runUnderlying203 Tryz.sizeOf9 rfl haq_11 rfl rfl hk5) (.skip (.keep (.keep (.keep .nil)))) (Fz.le.refl _) ?_
   refine dT 13 rfl rfl rfl (by kernel_rfl) (fun _ _ _ h => h) (y_ld (Says.fz hbq_11) Tryz.isAgg9 rfl (Nat.add_zero _).symm rfl) (.skip (.keep (.keep (.keep .nil)))) (Fz.le.refl _) ?_
   refine dE 14 (by kernel_rfl) rfl ?_
   refine csb Tryz.underlying9 Tryz.underlying22 Tryz.underlying5 rfl (by have := (hf.at 5).lTel (List.getElem_mem hk5); have := this.s; unfold B47; omega) rfl (fun Hb104 b104 cp104 le_12 hb104 => ?_)
   refine dN (.skip (.keep (.keep (.keep .nil)))) le_12 ?_
   refine dT 15 rfl rfl rfl (by kernel_rfl) (fun _ _ _ h => h) (y_bd S37 rfl rfl) (.skip (.keep (.keep (.keep .nil)))) le_12 ?_
   refine dE 16 (by kernel_rfl) rfl ?_
   refine bs' L34 rfl rfl rfl rfl (fun b_13 => ?_)
   refine dN (.skip (.skip (.keep (.keep (.keep .nil))))) le_12 ?_
   refine dE 17 (by kernel_rfl) rfl ?_
   have hmk : ml5 = k5 := by have h1 := congrArg List.length pk52; rw [List.length_map, List.length_map, List.length_take] at h1; omega
   have hmb := (hf.at 5).lTl
   refine ap (k := 1) (news := f5 (((⟨some ⟨b104, 0, none⟩, cp104, none, 0, none, 0⟩ : TC), (Tr.mk 0 ((lT (T.at 5))[k5]).s false [] [] : Tr)) : EE)) Tryz.underlying34 I37 rfl rfl pk50 (fun _ => (.tail .head)) (src_says Tryz.underlying34 rfl (fun _ => Says.own .head) (f5_one _)) (by omega) (by unfold maxLen; omega) rfl (fun a107 c107 N107 r107 z107 => ?_)
   rw [flatMap_snoc'] at r107
   refine dN (.skip (.skip (.keep (.keep (.keep .nil))))) le_12 ?_
   refine dE 18 (by kernel_rfl) rfl ?_
   refine ixk (j := 5) Tryz.runUnderlying34 Tryz.sizeOf37 rfl rfl rfl rfl (by decide) rfl ?_
   refine dN (.skip (.skip (.keep (.keep (.keep .nil))))) le_12 ?_
   refine dT 19 rfl rfl rfl (by kernel_rfl) (fun _ _ _ h => h) (y_fa F37_3 rfl) (.skip (.skip (.keep (.keep (.keep .nil))))) le_12 ?_
   refine dE 20 (by kernel_rfl) rfl ?_
   refine st Tryz.sizeOf34 rfl rfl rfl rfl (.tail (.tail (.tail .head))) ?_
   refine dNk (by kernel_rfl) ?_
   refine dD (by kernel_rfl) ?_
   refine Nb ?_
   refine drN .head ?_
   refine fun a_ w_ hA hw => ⟨_, _, _, hA.sub ?_, (le_8.trans le_12), hw, _, rfl, a107, (ml5 + 1), c107, (es5 ++ [(((⟨some ⟨b104, 0, none⟩, cp104, none, 0, none, 0⟩ : TC), (Tr.mk 0 ((lT (T.at 5))[k5]).s false [] [] : Tr)) : EE)]), N107, rfl, rfl, r107, (by simp; omega), (map_take_snoc (g := (fun y : Tr => (Tr.mk 0 y.s false [] [] : Tr))) hk5 pk52), (fun p hp => (mem_snoc hp).elim (fun h => (pk53 p h).mono le_12) (fun h => h ▸ (.of hb104 (.nil _) (.nil _))))⟩
   exact (.cons rfl (.cons rfl (.cons rfl (.cons rfl (.cons rfl (.nil _))))))
  ·
   refine st Tryz.sizeOf4 rfl rfl rfl rfl .head ?_
   refine dN .nil (Fz.le.refl _) ?_
   refine dE 1 (by kernel_rfl) rfl ?_
   refine st Tryz.sizeOf4 rfl rfl rfl rfl .head ?_
   refine dN .nil (Fz.le.refl _) ?_
   refine dE 3 (by kernel_rfl) rfl ?_
   refine ld (Says.own .head) Tryz.isAgg4 rfl (Nat.zero_add _).symm rfl rfl ?_
   refine dN .nil (Fz.le.refl _) ?_
   refine dD (by kernel_rfl) ?_
   refine drN .head ?_
   refine Nt ?_
   refine cT rfl ?_
   refine sq ?_
   refine rgD 19 (.skip (.keep (.keep (.keep .nil)))) mixed ?_
   refine dT 0 rfl rfl rfl (by kernel_rfl) (fun _ _ _ h => h) (y_fa0 F37_3 rfl) (.skip (.keep (.keep (.keep .nil)))) (Fz.le.refl _) ?_
   refine dT 1 rfl rfl rfl (by kernel_rfl) (fun _ _ _ h => h) (y_ld (Says.own .head) Tryz.isAgg34 rfl (Nat.zero_add _).symm rfl) (.skip (.keep (.keep (.keep .nil)))) (Fz.le.refl _) ?_
   refine dT 2 rfl rfl rfl (by kernel_rfl) (fun _ _ _ h => h) (y_ix2 (j := 5) Tryz.runUnderlying34 Tryz.sizeOf37 rfl rfl rfl rfl (by decide)) (.skip (.keep (.keep (.keep .nil)))) (Fz.le.refl _) ?_
   refine dT 3 rfl rfl rfl (by kernel_rfl) (fun _ _ _ h => h) (y_fa F37_3 rfl) (.skip (.keep (.keep (.keep .nil)))) (Fz.le.refl _) ?_
   refine dT 4 rfl rfl rfl (by kernel_rfl) (fun _ _ _ h => h) (y_ld (Says.own (.tail .head)) Tryz.isAgg34 rfl (Nat.zero_add _).symm rfl) (.skip (.keep (.keep (.keep .nil)))) (Fz.le.refl _) ?_
   refine dT 5 rfl rfl rfl (by kernel_rfl) (fun _ _ _ h => h) (y_mv rfl) (.skip (.keep (.keep (.keep .nil)))) (Fz.le.refl _) ?_
   refine dT 6 rfl rfl rfl (by kernel_rfl) (fun _ _ _ h => h) (y_nc rfl) (.skip (.keep (.keep (.keep .nil)))) (Fz.le.refl _) ?_
   refine dT 7 rfl rfl rfl (by kernel_rfl) (fun _ _ _ h => h) (y_fa F298_5 rfl) (.skip (.keep (.keep (.keep .nil)))) (Fz.le.refl _) ?_
   refine dT 8 rfl rfl rfl (by kernel_rfl) (fun _ _ _ h => h) (y_ld (j := 5) (Says.fz (hb.mono (le_4.trans (le_5.trans (le_6.trans (le_7.trans le_8)))))) Tryz.isAgg203 rfl rfl rfl) (.skip (.keep (.keep (.keep .nil)))) (Fz.le.refl _) ?_
   refine dT 9 rfl rfl rfl (by kernel_rfl) (fun _ _ _ h => h) (y_mv rfl) (.skip (.keep (.keep (.keep .nil)))) (Fz.le.refl _) ?_
   obtain ⟨beq_14, oeq_14, haq_14, hlq_14⟩ := ((h2.mono RText.mono (le_4.trans (le_5.trans (le_6.trans (le_7.trans le_8)))))).rows.at_ (ne_nil_of_lt hk5)
   obtain ⟨ceq_14, hAq_14, hbq_14⟩ := hlq_14 k5 hk5
   obtain rfl : ceq_14 = [.string ⟨((lT (T.at 5))[k5]).s.toArray⟩] := hAq_14
   refine dT 10 rfl rfl rfl (by kernel_rfl) (fun _ _ _ h => h) (y_ixk (j := k5) Tryz.runUnderlying203 Tryz.sizeOf9 rfl haq_14 rfl rfl hk5) (.skip (.keep (.keep (.keep .nil)))) (Fz.le.refl _) ?_
   refine dT 11 rfl rfl rfl (by kernel_rfl) (fun _ _ _ h => h) (y_ld (Says.fz hbq_14) Tryz.isAgg9 rfl (Nat.add_zero _).symm rfl) (.skip (.keep (.keep (.keep .nil)))) (Fz.le.refl _) ?_
   refine dT 14 rfl rfl rfl (by kernel_rfl) (fun _ _ _ h => h) (y_ls Tryz.runUnderlying34 rfl) (.skip (.keep (.keep (.keep .nil)))) (Fz.le.refl _) ?_
   refine dE2 12 15 (by kernel_rfl) rfl rfl ?_ ?_
   ·
    refine csb Tryz.underlying9 Tryz.underlying22 Tryz.underlying5 rfl (by have := (hf.at 5).lTel (List.getElem_mem hk5); have := this.s; unfold B47; omega) rfl (fun Hb82 b82 cp82 le_15 hb82 => ?_)
    refine dN (.skip (.keep (.keep (.keep .nil)))) le_15 ?_
    refine dT 13 rfl rfl rfl (by kernel_rfl) (fun _ _ _ h => h) (y_bd S37 rfl rfl) (.skip (.keep (.keep (.keep .nil)))) le_15 ?_
    refine dE 15 (by kernel_rfl) rfl ?_
    refine bs' L34 rfl rfl rfl rfl (fun b_16 => ?_)
    refine dN (.skip (.skip (.keep (.keep (.keep .nil))))) le_15 ?_
    refine dE 16 (by kernel_rfl) rfl ?_
    have hmk : ml5 = k5 := by have h1 := congrArg List.length pk52; rw [List.length_map, List.length_map, List.length_take] at h1; omega
    have hmb := (hf.at 5).lTl
    refine ap (k := 1) (news := f5 ((TC.none, Tr.none) : EE)) Tryz.underlying34 I37 rfl rfl pk50 (fun _ => (.tail .head)) (src_says Tryz.underlying34 rfl (fun _ => Says.own .head) (f5_one _)) (by omega) (by unfold maxLen; omega) rfl (fun a86 c86 N86 r86 z86 => ?_)
    refine dN (.skip (.skip (.keep (.keep (.keep .nil))))) le_15 ?_
    refine dE 17 (by kernel_rfl) rfl ?_
    refine ixk (j := 5) Tryz.runUnderlying34 Tryz.sizeOf37 rfl rfl rfl rfl (by decide) rfl ?_
    refine dN (.skip (.skip (.keep (.keep (.keep .nil))))) le_15 ?_
    refine dT 18 rfl rfl rfl (by kernel_rfl) (fun _ _ _ h => h) (y_fa F37_3 rfl) (.skip (.skip (.keep (.keep (.keep .nil))))) le_15 ?_
    refine dE 19 (by kernel_rfl) rfl ?_
    refine st Tryz.sizeOf34 rfl rfl rfl rfl (.tail (.tail (.tail .head))) ?_
    refine dNk (by kernel_rfl) ?_
    refine dD (by kernel_rfl) ?_
    refine Nt ?_
    refine rg ?_
    obtain ⟨gg86, hgg86⟩ := r86.addr (by omega)
    refine ixk (j := ml5) Tryz.runUnderlying34 Tryz.sizeOf37 rfl hgg86 rfl rfl (by omega) rfl ?_
    refine sR (ds := f5 (((⟨some ⟨b82, 0, none⟩, cp82, none, 0, none, 0⟩ : TC), (Tr.mk 0 ((lT (T.at 5))[k5]).s false [] [] : Tr)) : EE)) r86 hgg86 (fun _ => (.tail .head)) Tryz.sizeOf37 rfl rfl rfl rfl (by omega) (fun N86b r86b => ?_)
    rw [row_put (k := 5) (m := ml5) (A := es5.flatMap f5) (by rw [flatMap_len f5 5 f5_len, pk51]) rfl, flatMap_snoc'] at r86b
    refine nN ?_
    refine Nb ?_
    refine drN .head ?_
    refine fun a_ w_ hA hw => ⟨_, _, _, hA.sub ?_, (le_8.trans le_15), hw, _, rfl, a86, (ml5 + 1), c86, (es5 ++ [(((⟨some ⟨b82, 0, none⟩, cp82, none, 0, none, 0⟩ : TC), (Tr.mk 0 ((lT (T.at 5))[k5]).s false [] [] : Tr)) : EE)]), N86b, rfl, rfl, r86b, (by simp; omega), (map_take_snoc (g := (fun y : Tr => (Tr.mk 0 y.s false [] [] : Tr))) hk5 pk52), (fun p hp => (mem_snoc hp).elim (fun h => (pk53 p h).mono le_15) (fun h => h ▸ (.of hb82 (.nil _) (.nil _))))⟩
    exact (.cons rfl (.cons rfl (.cons rfl (.cons rfl (.cons rfl (.nil _))))))
   ·
    refine bs' L34 rfl rfl rfl rfl (fun b_17 => ?_)
    refine dN (.skip (.skip (.keep (.keep (.keep .nil))))) (Fz.le.refl _) ?_
    refine dE 12 (by kernel_rfl) rfl ?_
    refine csb Tryz.underlying9 Tryz.underlying22 Tryz.underlying5 rfl (by have := (hf.at 5).lTel (List.getElem_mem hk5); have := this.s; unfold B47; omega) rfl (fun Hb82 b82 cp82 le_18 hb82 => ?_)
    refine dN (.skip (.skip (.keep (.keep (.keep .nil))))) le_18 ?_
    refine dT 13 rfl rfl rfl (by kernel_rfl) (fun _ _ _ h => h) (y_bd S37 rfl rfl) (.skip (.skip (.keep (.keep (.keep .nil))))) le_18 ?_
    refine dE 16 (by kernel_rfl) rfl ?_
    have hmk : ml5 = k5 := by have h1 := congrArg List.length pk52; rw [List.length_map, List.length_map, List.length_take] at h1; omega
    have hmb := (hf.at 5).lTl
    refine ap (k := 1) (news := f5 ((TC.none, Tr.none) : EE)) Tryz.underlying34 I37 rfl rfl pk50 (fun _ => (.tail .head)) (src_says Tryz.underlying34 rfl (fun _ => Says.own .head) (f5_one _)) (by omega) (by unfold maxLen; omega) rfl (fun a86 c86 N86 r86 z86 => ?_)
    refine dN (.skip (.skip (.keep (.keep (.keep .nil))))) le_18 ?_
    refine dE 17 (by kernel_rfl) rfl ?_
    refine ixk (j := 5) Tryz.runUnderlying34 Tryz.sizeOf37 rfl rfl rfl rfl (by decide) rfl ?_
    refine dN (.skip (.skip (.keep (.keep (.keep .nil))))) le_18 ?_
    refine dT 18 rfl rfl rfl (by kernel_rfl) (fun _ _ _ h => h) (y_fa F37_3 rfl) (.skip (.skip (.keep (.keep (.keep .nil))))) le_18 ?_
    refine dE 19 (by kernel_rfl) rfl ?_
    refine st Tryz.sizeOf34 rfl rfl rfl rfl (.tail (.tail (.tail .head))) ?_
    refine dNk (by kernel_rfl) ?_
    refine dD (by kernel_rfl) ?_
    refine Nt ?_
    refine rg ?_
    obtain ⟨gg86, hgg86⟩ := r86.addr (by omega)
    refine ixk (j := ml5) Tryz.runUnderlying34 Tryz.sizeOf37 rfl hgg86 rfl rfl (by omega) rfl ?_
    refine sR (ds := f5 (((⟨some ⟨b82, 0, none⟩, cp82, none, 0, none, 0⟩ : TC), (Tr.mk 0 ((lT (T.at 5))[k5]).s false [] [] : Tr)) : EE)) r86 hgg86 (fun _ => (.tail .head)) Tryz.sizeOf37 rfl rfl rfl rfl (by omega) (fun N86b r86b => ?_)
    rw [row_put (k := 5) (m := ml5) (A := es5.flatMap f5) (by rw [flatMap_len f5 5 f5_len, pk51]) rfl, flatMap_snoc'] at r86b
    refine nN ?_
    refine Nb ?_
    refine drN .head ?_
    refine fun a_ w_ hA hw => ⟨_, _, _, hA.sub ?_, (le_8.trans le_18), hw, _, rfl, a86, (ml5 + 1), c86, (es5 ++ [(((⟨some ⟨b82, 0, none⟩, cp82, none, 0, none, 0⟩ : TC), (Tr.mk 0 ((lT (T.at 5))[k5]).s false [] [] : Tr)) : EE)]), N86b, rfl, rfl, r86b, (by simp; omega), (map_take_snoc (g := (fun y : Tr => (Tr.mk 0 y.s false [] [] : Tr))) hk5 pk52), (fun p hp => (mem_snoc hp).elim (fun h => (pk53 p h).mono le_18) (fun h => h ▸ (.of hb82 (.nil _) (.nil _))))⟩
    exact (.cons rfl (.cons rfl (.cons rfl (.cons rfl (.cons rfl (.nil _))))))
 ·
  obtain ⟨al5, ml5, cl5, es5, Nl5, rfl, rfl, pk50, pk51, pk52, pk53⟩ := hI
  refine toWp ?_
  have hes5 : es5.map (·.2) = (lT (T.at 5)).map (fun y : Tr => (Tr.mk 0 y.s false [] [] : Tr)) := by rw [pk52, List.take_length]
  have hm5 : ml5 = ((lT (T.at 5)).map (fun y : Tr => (Tr.mk 0 y.s false [] [] : Tr))).length := by rw [← hes5, List.length_map]; exact pk51
  refine frW pk50 .head (fun Hl5 hll5 hzl5 => ?_)
  have ht5 := TreesAt.row hzl5 pk51 pk50.le.1 (by have h1 := congrArg List.length hes5; rw [List.length_map, List.length_map] at h1; unfold B47; omega) (fun p hp => (pk53 p hp).mono hll5)
  rw [hes5] at ht5
  subst hm5
  refine sq ?_
  refine rgD 7 (.keep (.keep (.keep .nil))) mixed ?_
  refine dT 0 rfl rfl rfl (by kernel_rfl) (fun _ _ _ h => h) (y_fa0 F37_3 rfl) (.keep (.keep (.keep .nil))) (Fz.le.refl _) ?_
  refine dT 1 rfl rfl rfl (by kernel_rfl) (fun _ _ _ h => h) (y_ld (Says.own .head) Tryz.isAgg34 rfl (Nat.zero_add _).symm rfl) (.keep (.keep (.keep .nil))) (Fz.le.refl _) ?_
  refine dT 2 rfl rfl rfl (by kernel_rfl) (fun _ _ _ h => h) (y_mv rfl) (.keep (.keep (.keep .nil))) (Fz.le.refl _) ?_
  refine dT 3 rfl rfl rfl (by kernel_rfl) (fun _ _ _ h => h) (y_nc rfl) (.keep (.keep (.keep .nil))) (Fz.le.refl _) ?_
  refine dT 4 rfl rfl rfl (by kernel_rfl) (fun _ _ _ h => h) (y_fa F298_6 rfl) (.keep (.keep (.keep .nil))) (Fz.le.refl _) ?_
  refine dE 5 (by kernel_rfl) rfl ?_
  refine cl rfl rfl rfl (te_ShareGroupDescribeResponseGroupMemberAssignment ((hb.mono (le_4.trans (le_5.trans (le_6.trans (le_7.trans (le_9.trans hll5)))))).part 6 2) (⟨a6_0, c6_0, m6_t, rfl, (h3.mono At_ShareGroupDescribeResponseGroupMemberAssignmentTopicPartition.mono (le_4.trans (le_5.trans (le_6.trans (le_7.trans (le_9.trans hll5)))))), (h4.mono (le_4.trans (le_5.trans (le_6.trans (le_7.trans (le_9.trans hll5))))))⟩) (hf.at 6)) rfl (fun v_ H1 L1 le_19 hR_ => ?_)
  obtain ⟨rfl, ct116, rfl, hT116⟩ := hR_
  refine dN (.keep (.keep (.keep .nil))) le_19 ?_
  refine dT 6 rfl rfl rfl (by kernel_rfl) (fun _ _ _ h => h) (y_ix2 (j := 6) Tryz.runUnderlying34 Tryz.sizeOf37 rfl rfl rfl rfl (by decide)) (.keep (.keep (.keep .nil))) le_19 ?_
  refine dE 7 (by kernel_rfl) rfl ?_
  refine sa Tryz.sizeOf37 rfl rfl rfl rfl rfl (.tail .head) ?_
  refine dNk (by kernel_rfl) ?_
  refine dD (by kernel_rfl) ?_
  refine Nt ?_
  refine sr ?_
  refine mv rfl rfl ?_
  refine nc rfl rfl ?_
  refine fa F298_7 rfl rfl ?_
  refine mkf rfl rfl ?_
  have hkv_ := (h5.mono (le_4.trans (le_5.trans (le_6.trans (le_7.trans (le_9.trans (hll5.trans le_19)))))))
  obtain ⟨kvs, hM, hlen, hel⟩ := hkv_
  have hfu := hf.u
  refine cl rfl rfl rfl (t_each (j := 8) (I := fun i H1 Y => TgI 72 b_3 37 (.int .i64 0) (.slice none 0 0) (.bool false) (_) T.u i H1 Y) (hb.mono (le_4.trans (le_5.trans (le_6.trans (le_7.trans (le_9.trans (hll5.trans le_19))))))) rfl hM (by omega) (fun i H1 H2 Y hle h => h.mono hle) TgI.start (fun i k v H1 Y L1 hi hle hI => ?_)) rfl (fun v_ H1 L1 le_21 hR_ => ?_)
  ·
   obtain ⟨s, h1, ⟨va, vc, rfl, hx⟩, h2, h3⟩ := hel i k v hi
   have hik := sortKv_lt hi
   exact TgI.step (fun {_ _ _ _ _ _ _ _ _ _ _ _ _ _ _ _} => tc_316) hf.v (by omega) h1 (hx.mono hle) h2 h3 hI
  rw [hlen] at hR_
  obtain ⟨_, rfl, aU, cU, NU, esU, rfl, hrU, heU, hgU⟩ := hR_
  refine splL ?_
  rw [List.take_length] at heU
  refine frL hrU (.tail .head) (fun HU hleU hzU => ?_)
  have hU := (TagsAt.told hzU hrU heU hfu (fun p hp => (hgU p hp).mono hleU)).1
  refine nl ?_
  refine sr ?_
  refine fa0 F37_4 rfl rfl ?_
  refine ld (Says.own .head) Tryz.isAgg35 rfl (Nat.zero_add _).symm rfl rfl ?_
  refine cl rfl rfl rfl (k_sorted hU (h5.mono (le_4.trans (le_5.trans (le_6.trans (le_7.trans (le_9.trans (hll5.trans (le_19.trans (le_21.trans hleU))))))))).rise) rfl (fun v_ H1 L1 hle_ hR_ => ?_)
  obtain ⟨rfl, rfl⟩ := hR_
  refine nl ?_
  refine sr ?_
  refine la (Says.own .head) Tryz.isAgg37 Tryz.sizeOf37 rfl (Nat.zero_add _).symm rfl rfl ?_
  refine sa Tryz.sizeOf37 rfl rfl rfl rfl rfl (.tail (.tail .head)) ?_
  refine nl ?_
  refine drW .head ?_
  refine frW (Row.whole (e := 37) (size := 5) (m := 7) (ds := [.int .i64 0, .slice (some ⟨b13, 0, none⟩) (T.at 0).s.length cp13, .bool false, .slice none 0 0, .slice none 0 0, .int .i64 0, .slice ct22.sa (sT (T.at 1)).length ct22.sc, .bool (T.at 1).nul, .slice ct22.la 0 ct22.lc, .slice ct22.ua 0 ct22.uc, .int .i64 (IntKind.i32.wrap (T.at 2).n), .slice none 0 0, .bool false, .slice none 0 0, .slice none 0 0, .int .i64 0, .slice (some ⟨b39, 0, none⟩) (T.at 3).s.length cp39, .bool false, .slice none 0 0, .slice none 0 0, .int .i64 0, .slice (some ⟨b48, 0, none⟩) (T.at 4).s.length cp48, .bool false, .slice none 0 0, .slice none 0 0, .int .i64 0, .slice none 0 0, .bool a5.isNone, .slice al5 ((lT (T.at 5)).map (fun y : Tr => (Tr.mk 0 y.s false [] [] : Tr))).length cl5, .slice none 0 0, .int .i64 (tl_ShareGroupDescribeResponseGroupMemberAssignment (T.at 6)).n, .slice ct116.sa (tl_ShareGroupDescribeResponseGroupMemberAssignment (T.at 6)).s.length ct116.sc, .bool (tl_ShareGroupDescribeResponseGroupMemberAssignment (T.at 6)).nul, .slice ct116.la (tl_ShareGroupDescribeResponseGroupMemberAssignment (T.at 6)).l.length ct116.lc, .slice ct116.ua (tl_ShareGroupDescribeResponseGroupMemberAssignment (T.at 6)).u.length ct116.uc]) rfl (by unfold maxLen; omega)) .head (fun H9 hle9 hz9 => ?_)
  have hrb : H9.at b_2 0 [.int .i64 0, .slice (some ⟨b13, 0, none⟩) (T.at 0).s.length cp13, .bool false, .slice none 0 0, .slice none 0 0, .int .i64 0, .slice ct22.sa (sT (T.at 1)).length ct22.sc, .bool (T.at 1).nul, .slice ct22.la 0 ct22.lc, .slice ct22.ua 0 ct22.uc, .int .i64 (IntKind.i32.wrap (T.at 2).n), .slice none 0 0, .bool false, .slice none 0 0, .slice none 0 0, .int .i64 0, .slice (some ⟨b39, 0, none⟩) (T.at 3).s.length cp39, .bool false, .slice none 0 0, .slice none 0 0, .int .i64 0, .slice (some ⟨b48, 0, none⟩) (T.at 4).s.length cp48, .bool false, .slice none 0 0, .slice none 0 0, .int .i64 0, .slice none 0 0, .bool a5.isNone, .slice al5 ((lT (T.at 5)).map (fun y : Tr => (Tr.mk 0 y.s false [] [] : Tr))).length cl5, .slice none 0 0, .int .i64 (tl_ShareGroupDescribeResponseGroupMemberAssignment (T.at 6)).n, .slice ct116.sa (tl_ShareGroupDescribeResponseGroupMemberAssignment (T.at 6)).s.length ct116.sc, .bool (tl_ShareGroupDescribeResponseGroupMemberAssignment (T.at 6)).nul, .slice ct116.la (tl_ShareGroupDescribeResponseGroupMemberAssignment (T.at 6)).l.length ct116.lc, .slice ct116.ua (tl_ShareGroupDescribeResponseGroupMemberAssignment (T.at 6)).u.length ct116.uc] := by
   rcases hz9 with ⟨h, _⟩ | ⟨g, h, h2⟩
   · cases h
   · cases h; exact h2
  rw [(h2).nul] at hrb
  have hrb2 : H9.at b_2 0 (([((⟨some ⟨b13, 0, none⟩, cp13, none, 0, none, 0⟩ : TC), (Tr.mk 0 (T.at 0).s false [] [] : Tr)), ((ct22 : TC), (Tr.mk 0 (sT (T.at 1)) (T.at 1).nul [] [] : Tr)), ((TC.none : TC), (Tr.mk (IntKind.i32.wrap (T.at 2).n) [] false [] [] : Tr)), ((⟨some ⟨b39, 0, none⟩, cp39, none, 0, none, 0⟩ : TC), (Tr.mk 0 (T.at 3).s false [] [] : Tr)), ((⟨some ⟨b48, 0, none⟩, cp48, none, 0, none, 0⟩ : TC), (Tr.mk 0 (T.at 4).s false [] [] : Tr)), ((⟨none, 0, al5, cl5, none, 0⟩ : TC), (Tr.mk 0 [] (T.at 5).nul ((lT (T.at 5)).map (fun y : Tr => (Tr.mk 0 y.s false [] [] : Tr))) [] : Tr)), ((ct116 : TC), (tl_ShareGroupDescribeResponseGroupMemberAssignment (T.at 6)))] : List EE).flatMap fun p => p.1.cells p.2) := by exact hrb
  have hl9 : TreesAt H9 (some ⟨b_2, 0, none⟩) 7 [(.mk 0 (T.at 0).s false [] []), (.mk 0 (sT (T.at 1)) (T.at 1).nul [] []), (.mk (IntKind.i32.wrap (T.at 2).n) [] false [] []), (.mk 0 (T.at 3).s false [] []), (.mk 0 (T.at 4).s false [] []), (.mk 0 [] (T.at 5).nul ((lT (T.at 5)).map (fun y : Tr => (Tr.mk 0 y.s false [] [] : Tr))) []), (tl_ShareGroupDescribeResponseGroupMemberAssignment (T.at 6))] := by
   refine TreesAt.row (es := [((⟨some ⟨b13, 0, none⟩, cp13, none, 0, none, 0⟩ : TC), (Tr.mk 0 (T.at 0).s false [] [] : Tr)), ((ct22 : TC), (Tr.mk 0 (sT (T.at 1)) (T.at 1).nul [] [] : Tr)), ((TC.none : TC), (Tr.mk (IntKind.i32.wrap (T.at 2).n) [] false [] [] : Tr)), ((⟨some ⟨b39, 0, none⟩, cp39, none, 0, none, 0⟩ : TC), (Tr.mk 0 (T.at 3).s false [] [] : Tr)), ((⟨some ⟨b48, 0, none⟩, cp48, none, 0, none, 0⟩ : TC), (Tr.mk 0 (T.at 4).s false [] [] : Tr)), ((⟨none, 0, al5, cl5, none, 0⟩ : TC), (Tr.mk 0 [] (T.at 5).nul ((lT (T.at 5)).map (fun y : Tr => (Tr.mk 0 y.s false [] [] : Tr))) [] : Tr)), ((ct116 : TC), (tl_ShareGroupDescribeResponseGroupMemberAssignment (T.at 6)))]) (.inr ⟨_, rfl, hrb2⟩) rfl (Nat.le_refl _) (Nat.le_of_ble_eq_true rfl) ?_
   intro p hp
   simp only [List.mem_cons, List.not_mem_nil, or_false] at hp
   rcases hp with rfl | rfl | rfl | rfl | rfl | rfl | rfl
   · exact (.of (hb13.mono (le_5.trans (le_6.trans (le_7.trans (le_9.trans (hll5.trans (le_19.trans (le_21.trans (hleU.trans hle9))))))))) (.nil _) (.nil _))
   · exact (hT22.mono (le_6.trans (le_7.trans (le_9.trans (hll5.trans (le_19.trans (le_21.trans (hleU.trans hle9))))))))
   · exact (.of (.nil _) (.nil _) (.nil _))
   · exact (.of (hb39.mono (le_7.trans (le_9.trans (hll5.trans (le_19.trans (le_21.trans (hleU.trans hle9))))))) (.nil _) (.nil _))
   · exact (.of (hb48.mono (le_9.trans (hll5.trans (le_19.trans (le_21.trans (hleU.trans hle9)))))) (.nil _) (.nil _))
   · exact (.of (.nil _) (ht5.mono (le_19.trans (le_21.trans (hleU.trans hle9)))) (.nil _))
   · exact (hT116.mono (le_21.trans (hleU.trans hle9)))
  exact rC rfl Tryz.isAgg37 Tryz.sizeOf37 rfl .head rfl (le_4.trans (le_5.trans (le_6.trans (le_7.trans (le_9.trans (hll5.trans (le_19.trans (le_21.trans (hleU.trans hle9))))))))) (fun _ _ h => h) ⟨rfl, ⟨none, 0, some ⟨b_2, 0, none⟩, 7, aU, cU⟩, rfl, .of (.nil _) hl9 (hU.mono hle9)⟩
def tl_ShareGroupDescribeResponseGroup (T : Tr) : Tr := .mk 0 [] false [(.mk (IntKind.i16.wrap (T.at 0).n) [] false [] []), (.mk 0 (sT (T.at 1)) (T.at 1).nul [] []), (.mk 0 (T.at 2).s false [] []), (.mk 0 (T.at 3).s false [] []), (.mk (IntKind.i32.wrap (T.at 4).n) [] false [] []), (.mk (IntKind.i32.wrap (T.at 5).n) [] false [] []), (.mk 0 (T.at 6).s false [] []), (.mk 0 [] (T.at 7).nul ((lT (T.at 7)).map tl_ShareGroupDescribeResponseGroupMember) []), (.mk (IntKind.i32.wrap (T.at 8).n) [] false [] [])] T.u
theorem te_ShareGroupDescribeResponseGroup {H : Fz} {L : Own} {b o : Nat} {cs : List Value} {T : Tr} (hb : H.at b o cs) (hA : At_ShareGroupDescribeResponseGroup H T cs) (hf : Fits T) :
  Fn Tryz.prog 183 [.pointer (some ⟨b, o, none⟩)] H L (fun v H' L' => L = L' ∧ ∃ c : TC, v = .agg (c.cells (tl_ShareGroupDescribeResponseGroup T)).toArray ∧ TreeAt H' c (tl_ShareGroupDescribeResponseGroup T)) := by
 obtain ⟨p1, a7, c7, mt, rfl, h1, h2, h3⟩ := hA
 refine Fn.mk Tryz.call183 Tryz.func183 rfl Tryz.ntmps183 rfl ?_
 refine sr ?_
 refine al Tryz.zeroValue37 rfl rfl (fun b_1 => ?_)
 refine nl ?_
 refine sr ?_
 refine mkC (m := 9) (zs := [.int .i64 0, .slice none 0 0, .bool false, .slice none 0 0, .slice none 0 0]) Tryz.underlying34 I37 rfl rfl rfl rfl rfl rfl (by decide) (by unfold maxLen; omega) rfl (fun b_2 => ?_)
 refine bd' S37 rfl rfl rfl ?_
 refine al Tryz.zeroValue37 rfl rfl (fun b_3 => ?_)
 refine sa Tryz.sizeOf37 rfl rfl rfl rfl rfl .head ?_
 refine nl ?_
 refine sq ?_
 refine rgD 9 (.keep (.keep (.keep .nil))) mixed ?_
 refine dT 0 rfl rfl rfl (by kernel_rfl) (fun _ _ _ h => h) (y_fa0 F37_3 rfl) (.keep (.keep (.keep .nil))) (Fz.le.refl _) ?_
 refine dT 1 rfl rfl rfl (by kernel_rfl) (fun _ _ _ h => h) (y_ld (Says.own .head) Tryz.isAgg34 rfl (Nat.zero_add _).symm rfl) (.keep (.keep (.keep .nil))) (Fz.le.refl _) ?_
 refine dT 2 rfl rfl rfl (by kernel_rfl) (fun _ _ _ h => h) (y_mv rfl) (.keep (.keep (.keep .nil))) (Fz.le.refl _) ?_
 refine dT 3 rfl rfl rfl (by kernel_rfl) (fun _ _ _ h => h) (y_nc rfl) (.keep (.keep (.keep .nil))) (Fz.le.refl _) ?_
 refine dT 4 rfl rfl rfl (by kernel_rfl) (fun _ _ _ h => h) (y_fa F193_0 rfl) (.keep (.keep (.keep .nil))) (Fz.le.refl _) ?_
 refine dT 5 rfl rfl rfl (by kernel_rfl) (fun _ _ _ h => h) (y_ld (j := 0) (Says.fz hb) Tryz.isAgg51 rfl (Nat.add_zero _).symm rfl) (.keep (.keep (.keep .nil))) (Fz.le.refl _) ?_
 refine dT 6 rfl rfl rfl (by kernel_rfl) (fun _ _ _ h => h) (y_cv Tryz.runUnderlying51 Tryz.runUnderlying2 rfl (i16_64 _)) (.keep (.keep (.keep .nil))) (Fz.le.refl _) ?_
 refine dT 7 rfl rfl rfl (by kernel_rfl) (fun _ _ _ h => h) (y_bd S37 rfl rfl) (.keep (.keep (.keep .nil))) (Fz.le.refl _) ?_
 refine dT 8 rfl rfl rfl (by kernel_rfl) (fun _ _ _ h => h) (y_ix2 (j := 0) Tryz.runUnderlying34 Tryz.sizeOf37 rfl rfl rfl rfl (by decide)) (.keep (.keep (.keep .nil))) (Fz.le.refl _) ?_
 refine dE 9 (by kernel_rfl) rfl ?_
 refine sa Tryz.sizeOf37 rfl rfl rfl rfl rfl (.tail .head) ?_
 refine dNk (by kernel_rfl) ?_
 refine dD (by kernel_rfl) ?_
 refine Nt ?_
 refine sq ?_
 refine rgD 8 (.keep (.keep (.keep .nil))) mixed ?_
 refine dT 0 rfl rfl rfl (by kernel_rfl) (fun _ _ _ h => h) (y_fa0 F37_3 rfl) (.keep (.keep (.keep .nil))) (Fz.le.refl _) ?_
 refine dT 1 rfl rfl rfl (by kernel_rfl) (fun _ _ _ h => h) (y_ld (Says.own .head) Tryz.isAgg34 rfl (Nat.zero_add _).symm rfl) (.keep (.keep (.keep .nil))) (Fz.le.refl _) ?_
 refine dT 2 rfl rfl rfl (by kernel_rfl) (fun _ _ _ h => h) (y_mv rfl) (.keep (.keep (.keep .nil))) (Fz.le.refl _) ?_
 refine dT 3 rfl rfl rfl (by kernel_rfl) (fun _ _ _ h => h) (y_nc rfl) (.keep (.keep (.keep .nil))) (Fz.le.refl _) ?_
 refine dT 4 rfl rfl rfl (by kernel_rfl) (fun _ _ _ h => h) (y_fa F193_1 rfl) (.keep (.keep (.keep .nil))) (Fz.le.refl _) ?_
 refine dT 5 rfl rfl rfl (by kernel_rfl) (fun _ _ _ h => h) (y_ld (j := 1) (Says.fz hb) Tryz.isAgg131 rfl rfl rfl) (.keep (.keep (.keep .nil))) (Fz.le.refl _) ?_
 refine dE 6 (by kernel_rfl) rfl ?_
 refine cl rfl rfl rfl (k_textTree h1 (hf.at 1)) rfl (fun v_ H1 L1 le_4 hR_ => ?_)
 obtain ⟨rfl, ct22, rfl, hT22⟩ := hR_
 refine dN (.keep (.keep (.keep .nil))) le_4 ?_
 refine dT 7 rfl rfl rfl (by kernel_rfl) (fun _ _ _ h => h) (y_ix2 (j := 1) Tryz.runUnderlying34 Tryz.sizeOf37 rfl rfl rfl rfl (by decide)) (.keep (.keep (.keep .nil))) le_4 ?_
 refine dE 8 (by kernel_rfl) rfl ?_
 refine sa Tryz.sizeOf37 rfl rfl rfl rfl rfl (.tail .head) ?_
 refine dNk (by kernel_rfl) ?_
 refine dD (by kernel_rfl) ?_
 refine Nt ?_
 refine sq ?_
 refine rgD 9 (.keep (.keep (.keep .nil))) mixed ?_
 refine dT 0 rfl rfl rfl (by kernel_rfl) (fun _ _ _ h => h) (y_fa0 F37_3 rfl) (.keep (.keep (.keep .nil))) (Fz.le.refl _) ?_
 refine dT 1 rfl rfl rfl (by kernel_rfl) (fun _ _ _ h => h) (y_ld (Says.own .head) Tryz.isAgg34 rfl (Nat.zero_add _).symm rfl) (.keep (.keep (.keep .nil))) (Fz.le.refl _) ?_
 refine dT 2 rfl rfl rfl (by kernel_rfl) (fun _ _ _ h => h) (y_mv rfl) (.keep (.keep (.keep .nil))) (Fz.le.refl _) ?_
 refine dT 3 rfl rfl rfl (by kernel_rfl) (fun _ _ _ h => h) (y_nc rfl) (.keep (.keep (.keep .nil))) (Fz.le.refl _) ?_
 refine dT 4 rfl rfl rfl (by kernel_rfl) (fun _ _ _ h => h) (y_fa F193_2 rfl) (.keep (.keep (.keep .nil))) (Fz.le.refl _) ?_
 refine dT 5 rfl rfl rfl (by kernel_rfl) (fun _ _ _ h => h) (y_ld (j := 2) (Says.fz (hb.mono le_4)) Tryz.isAgg9 rfl rfl rfl) (.keep (.keep (.keep .nil))) (Fz.le.refl _) ?_
 refine dE 6 (by kernel_rfl) rfl ?_
 refine csb Tryz.underlying9 Tryz.underlying22 Tryz.underlying5 rfl (by have := (hf.at 2).s; unfold B47; omega) rfl (fun Hb30 b30 cp30 le_5 hb30 => ?_)
 refine dN (.keep (.keep (.keep .nil))) le_5 ?_
 refine dT 7 rfl rfl rfl (by kernel_rfl) (fun _ _ _ h => h) (y_bd S37 rfl rfl) (.keep (.keep (.keep .nil))) le_5 ?_
 refine dT 8 rfl rfl rfl (by kernel_rfl) (fun _ _ _ h => h) (y_ix2 (j := 2) Tryz.runUnderlying34 Tryz.sizeOf37 rfl rfl rfl rfl (by decide)) (.keep (.keep (.keep .nil))) le_5 ?_
 refine dE 9 (by kernel_rfl) rfl ?_
 refine sa Tryz.sizeOf37 rfl rfl rfl rfl rfl (.tail .head) ?_
 refine dNk (by kernel_rfl) ?_
 refine dD (by kernel_rfl) ?_
 refine Nt ?_
 refine sq ?_
 refine rgD 9 (.keep (.keep (.keep .nil))) mixed ?_
 refine dT 0 rfl rfl rfl (by kernel_rfl) (fun _ _ _ h => h) (y_fa0 F37_3 rfl) (.keep (.keep (.keep .nil))) (Fz.le.refl _) ?_
 refine dT 1 rfl rfl rfl (by kernel_rfl) (fun _ _ _ h => h) (y_ld (Says.own .head) Tryz.isAgg34 rfl (Nat.zero_add _).symm rfl) (.keep (.keep (.keep .nil))) (Fz.le.refl _) ?_
 refine dT 2 rfl rfl rfl (by kernel_rfl) (fun _ _ _ h => h) (y_mv rfl) (.keep (.keep (.keep .nil))) (Fz.le.refl _) ?_
 refine dT 3 rfl rfl rfl (by kernel_rfl) (fun _ _ _ h => h) (y_nc rfl) (.keep (.keep (.keep .nil))) (Fz.le.refl _) ?_
 refine dT 4 rfl rfl rfl (by kernel_rfl) (fun _ _ _ h => h) (y_fa F193_3 rfl) (.keep (.keep (.keep .nil))) (Fz.le.refl _) ?_
 refine dT 5 rfl rfl rfl (by kernel_rfl) (fun _ _ _ h => h) (y_ld (j := 3) (Says.fz (hb.mono (le_4.trans le_5))) Tryz.isAgg9 rfl rfl rfl) (.keep (.keep (.keep .nil))) (Fz.le.refl _) ?_
 refine dE 6 (by kernel_rfl) rfl ?_
 refine csb Tryz.underlying9 Tryz.underlying22 Tryz.underlying5 rfl (by have := (hf.at 3).s; unfold B47; omega) rfl (fun Hb39 b39 cp39 le_6 hb39 => ?_)
 refine dN (.keep (.keep (.keep .nil))) le_6 ?_
 refine dT 7 rfl rfl rfl (by kernel_rfl) (fun _ _ _ h => h) (y_bd S37 rfl rfl) (.keep (.keep (.keep .nil))) le_6 ?_
 refine dT 8 rfl rfl rfl (by kernel_rfl) (fun _ _ _ h => h) (y_ix2 (j := 3) Tryz.runUnderlying34 Tryz.sizeOf37 rfl rfl rfl rfl (by decide)) (.keep (.keep (.keep .nil))) le_6 ?_
 refine dE 9 (by kernel_rfl) rfl ?_
 refine sa Tryz.sizeOf37 rfl rfl rfl rfl rfl (.tail .head) ?_
 refine dNk (by kernel_rfl) ?_
 refine dD (by kernel_rfl) ?_
 refine Nt ?_
 refine sq ?_
 refine rgD 9 (.keep (.keep (.keep .nil))) mixed ?_
 refine dT 0 rfl rfl rfl (by kernel_rfl) (fun _ _ _ h => h) (y_fa0 F37_3 rfl) (.keep (.keep (.keep .nil))) (Fz.le.refl _) ?_
 refine dT 1 rfl rfl rfl (by kernel_rfl) (fun _ _ _ h => h) (y_ld (Says.own .head) Tryz.isAgg34 rfl (Nat.zero_add _).symm rfl) (.keep (.keep (.keep .nil))) (Fz.le.refl _) ?_
 refine dT 2 rfl rfl rfl (by kernel_rfl) (fun _ _ _ h => h) (y_mv rfl) (.keep (.keep (.keep .nil))) (Fz.le.refl _) ?_
 refine dT 3 rfl rfl rfl (by kernel_rfl) (fun _ _ _ h => h) (y_nc rfl) (.keep (.keep (.keep .nil))) (Fz.le.refl _) ?_
 refine dT 4 rfl rfl rfl (by kernel_rfl) (fun _ _ _ h => h) (y_fa F193_4 rfl) (.keep (.keep (.keep .nil))) (Fz.le.refl _) ?_
 refine dT 5 rfl rfl rfl (by kernel_rfl) (fun _ _ _ h => h) (y_ld (j := 4) (Says.fz (hb.mono (le_4.trans (le_5.trans le_6)))) Tryz.isAgg21 rfl rfl rfl) (.keep (.keep (.keep .nil))) (Fz.le.refl _) ?_
 refine dT 6 rfl rfl rfl (by kernel_rfl) (fun _ _ _ h => h) (y_cv Tryz.runUnderlying21 Tryz.runUnderlying2 rfl (i32_64 _)) (.keep (.keep (.keep .nil))) (Fz.le.refl _) ?_
 refine dT 7 rfl rfl rfl (by kernel_rfl) (fun _ _ _ h => h) (y_bd S37 rfl rfl) (.keep (.keep (.keep .nil))) (Fz.le.refl _) ?_
 refine dT 8 rfl rfl rfl (by kernel_rfl) (fun _ _ _ h => h) (y_ix2 (j := 4) Tryz.runUnderlying34 Tryz.sizeOf37 rfl rfl rfl rfl (by decide)) (.keep (.keep (.keep .nil))) (Fz.le.refl _) ?_
 refine dE 9 (by kernel_rfl) rfl ?_
 refine sa Tryz.sizeOf37 rfl rfl rfl rfl rfl (.tail .head) ?_
 refine dNk (by kernel_rfl) ?_
 refine dD (by kernel_rfl) ?_
 refine Nt ?_
 refine sq ?_
 refine rgD 9 (.keep (.keep (.keep .nil))) mixed ?_
 refine dT 0 rfl rfl rfl (by kernel_rfl) (fun _ _ _ h => h) (y_fa0 F37_3 rfl) (.keep (.keep (.keep .nil))) (Fz.le.refl _) ?_
 refine dT 1 rfl rfl rfl (by kernel_rfl) (fun _ _ _ h => h) (y_ld (Says.own .head) Tryz.isAgg34 rfl (Nat.zero_add _).symm rfl) (.keep (.keep (.keep .nil))) (Fz.le.refl _) ?_
 refine dT 2 rfl rfl rfl (by kernel_rfl) (fun _ _ _ h => h) (y_mv rfl) (.keep (.keep (.keep .nil))) (Fz.le.refl _) ?_
 refine dT 3 rfl rfl rfl (by kernel_rfl) (fun _ _ _ h => h) (y_nc rfl) (.keep (.keep (.keep .nil))) (Fz.le.refl _) ?_
 refine dT 4 rfl rfl rfl (by kernel_rfl) (fun _ _ _ h => h) (y_fa F193_5 rfl) (.keep (.keep (.keep .nil))) (Fz.le.refl _) ?_
 refine dT 5 rfl rfl rfl (by kernel_rfl) (fun _ _ _ h => h) (y_ld (j := 5) (Says.fz (hb.mono (le_4.trans (le_5.trans le_6)))) Tryz.isAgg21 rfl rfl rfl) (.keep (.keep (.keep .nil))) (Fz.le.refl _) ?_
 refine dT 6 rfl rfl rfl (by kernel_rfl) (fun _ _ _ h => h) (y_cv Tryz.runUnderlying21 Tryz.runUnderlying2 rfl (i32_64 _)) (.keep (.keep (.keep .nil))) (Fz.le.refl _) ?_
 refine dT 7 rfl rfl rfl (by kernel_rfl) (fun _ _ _ h => h) (y_bd S37 rfl rfl) (.keep (.keep (.keep .nil))) (Fz.le.refl _) ?_
 refine dT 8 rfl rfl rfl (by kernel_rfl) (fun _ _ _ h => h) (y_ix2 (j := 5) Tryz.runUnderlying34 Tryz.sizeOf37 rfl rfl rfl rfl (by decide)) (.keep (.keep (.keep .nil))) (Fz.le.refl _) ?_
 refine dE 9 (by kernel_rfl) rfl ?_
 refine sa Tryz.sizeOf37 rfl rfl rfl rfl rfl (.tail .head) ?_
 refine dNk (by kernel_rfl) ?_
 refine dD (by kernel_rfl) ?_
 refine Nt ?_
 refine sq ?_
 refine rgD 9 (.keep (.keep (.keep .nil))) mixed ?_
 refine dT 0 rfl rfl rfl (by kernel_rfl) (fun _ _ _ h => h) (y_fa0 F37_3 rfl) (.keep (.keep (.keep .nil))) (Fz.le.refl _) ?_
 refine dT 1 rfl rfl rfl (by kernel_rfl) (fun _ _ _ h => h) (y_ld (Says.own .head) Tryz.isAgg34 rfl (Nat.zero_add _).symm rfl) (.keep (.keep (.keep .nil))) (Fz.le.refl _) ?_
 refine dT 2 rfl rfl rfl (by kernel_rfl) (fun _ _ _ h => h) (y_mv rfl) (.keep (.keep (.keep .nil))) (Fz.le.refl _) ?_
 refine dT 3 rfl rfl rfl (by kernel_rfl) (fun _ _ _ h => h) (y_nc rfl) (.keep (.keep (.keep .nil))) (Fz.le.refl _) ?_
 refine dT 4 rfl rfl rfl (by kernel_rfl) (fun _ _ _ h => h) (y_fa F193_6 rfl) (.keep (.keep (.keep .nil))) (Fz.le.refl _) ?_
 refine dT 5 rfl rfl rfl (by kernel_rfl) (fun _ _ _ h => h) (y_ld (j := 6) (Says.fz (hb.mono (le_4.trans (le_5.trans le_6)))) Tryz.isAgg9 rfl rfl rfl) (.keep (.keep (.keep .nil))) (Fz.le.refl _) ?_
 refine dE 6 (by kernel_rfl) rfl ?_
 refine csb Tryz.underlying9 Tryz.underlying22 Tryz.underlying5 rfl (by have := (hf.at 6).s; unfold B47; omega) rfl (fun Hb66 b66 cp66 le_7 hb66 => ?_)
 refine dN (.keep (.keep (.keep .nil))) le_7 ?_
 refine dT 7 rfl rfl rfl (by kernel_rfl) (fun _ _ _ h => h) (y_bd S37 rfl rfl) (.keep (.keep (.keep .nil))) le_7 ?_
 refine dT 8 rfl rfl rfl (by kernel_rfl) (fun _ _ _ h => h) (y_ix2 (j := 6) Tryz.runUnderlying34 Tryz.sizeOf37 rfl rfl rfl rfl (by decide)) (.keep (.keep (.keep .nil))) le_7 ?_
 refine dE 9 (by kernel_rfl) rfl ?_
 refine sa Tryz.sizeOf37 rfl rfl rfl rfl rfl (.tail .head) ?_
 refine dNk (by kernel_rfl) ?_
 refine dD (by kernel_rfl) ?_
 refine Nt ?_
 refine sq ?_
 refine rgD 9 (.keep (.keep (.keep .nil))) mixed ?_
 refine dT 0 rfl rfl rfl (by kernel_rfl) (fun _ _ _ h => h) (y_fa0 F37_3 rfl) (.keep (.keep (.keep .nil))) (Fz.le.refl _) ?_
 refine dT 1 rfl rfl rfl (by kernel_rfl) (fun _ _ _ h => h) (y_ld (Says.own .head) Tryz.isAgg34 rfl (Nat.zero_add _).symm rfl) (.keep (.keep (.keep .nil))) (Fz.le.refl _) ?_
 refine dT 2 rfl rfl rfl (by kernel_rfl) (fun _ _ _ h => h) (y_mv rfl) (.keep (.keep (.keep .nil))) (Fz.le.refl _) ?_
 refine dT 3 rfl rfl rfl (by kernel_rfl) (fun _ _ _ h => h) (y_nc rfl) (.keep (.keep (.keep .nil))) (Fz.le.refl _) ?_
 refine dT 4 rfl rfl rfl (by kernel_rfl) (fun _ _ _ h => h) (y_fa F193_7 rfl) (.keep (.keep (.keep .nil))) (Fz.le.refl _) ?_
 refine dT 5 rfl rfl rfl (by kernel_rfl) (fun _ _ _ h => h) (y_ld (j := 7) (Says.fz (hb.mono (le_4.trans (le_5.trans (le_6.trans le_7))))) Tryz.isAgg191 rfl rfl rfl) (.keep (.keep (.keep .nil))) (Fz.le.refl _) ?_
 refine dT 6 rfl rfl rfl (by kernel_rfl) (fun _ _ _ h => h) (y_esn Tryz.underlying191 rfl) (.keep (.keep (.keep .nil))) (Fz.le.refl _) ?_
 refine dE 7 (by kernel_rfl) rfl ?_
 refine ixk (j := 7) Tryz.runUnderlying34 Tryz.sizeOf37 rfl rfl rfl rfl (by decide) rfl ?_
 refine dN (.keep (.keep (.keep .nil))) (Fz.le.refl _) ?_
 refine dT 8 rfl rfl rfl (by kernel_rfl) (fun _ _ _ h => h) (y_fa F37_2 rfl) (.keep (.keep (.keep .nil))) (Fz.le.refl _) ?_
 refine dE 9 (by kernel_rfl) rfl ?_
 refine st Tryz.sizeOf4 rfl rfl rfl rfl (.tail .head) ?_
 refine dNk (by kernel_rfl) ?_
 refine dD (by kernel_rfl) ?_
 refine Nt ?_
 refine sq ?_
 refine sr ?_
 refine mv rfl rfl ?_
 refine nc rfl rfl ?_
 refine fa F193_7 rfl rfl ?_
 refine ld (Says.fz (hb.mono (le_4.trans (le_5.trans (le_6.trans le_7))))) Tryz.isAgg191 rfl rfl rfl rfl ?_
 refine ls Tryz.runUnderlying191 rfl rfl ?_
 refine mv rfl rfl ?_
 refine nl ?_
 have hlm7 := (hf.at 7).lTl
 refine nulC2 ?_
 refine fr ((lT (T.at 7)).length) (fun k7 l' H' L' => ∃ (al7 : Option Addr), ∃ (ml7 : Nat), ∃ (cl7 : Nat), ∃ (es7 : List EE), ∃ (Nl7 : Chunk), [(0, .pointer (some ⟨b, o, none⟩)), (2, .pointer (some ⟨b_1, 0, none⟩)), (3, .pointer (some ⟨b_3, 0, none⟩)), (82, .int .i64 ((lT (T.at 7)).length : Int))] = l' ∧ Nl7 :: [(b_3, .cells [.int .i64 0, .slice none 0 0, .bool false, _, .slice none 0 0].toArray 37 (0, 0))] :: [(b_2, .cells [.int .i64 (IntKind.i16.wrap (T.at 0).n), .slice none 0 0, .bool false, .slice none 0 0, .slice none 0 0, .int .i64 0, .slice ct22.sa (sT (T.at 1)).length ct22.sc, .bool (T.at 1).nul, .slice ct22.la 0 ct22.lc, .slice ct22.ua 0 ct22.uc, .int .i64 0, .slice (some ⟨b30, 0, none⟩) (T.at 2).s.length cp30, .bool false, .slice none 0 0, .slice none 0 0, .int .i64 0, .slice (some ⟨b39, 0, none⟩) (T.at 3).s.length cp39, .bool false, .slice none 0 0, .slice none 0 0, .int .i64 (IntKind.i32.wrap (T.at 4).n), .slice none 0 0, .bool false, .slice none 0 0, .slice none 0 0, .int .i64 (IntKind.i32.wrap (T.at 5).n), .slice none 0 0, .bool false, .slice none 0 0, .slice none 0 0, .int .i64 0, .slice (some ⟨b66, 0, none⟩) (T.at 6).s.length cp66, .bool false, .slice none 0 0, .slice none 0 0, .int .i64 0, .slice none 0 0, .bool a7.isNone, .slice al7 ml7 cl7, .slice none 0 0, .int .i64 0, .slice none 0 0, .bool false, .slice none 0 0, .slice none 0 0].toArray 37 (0, 0))] :: [(b_1, .cells [.int .i64 0, .slice none 0 0, .bool false, .slice none 0 0, .slice none 0 0].toArray 37 (0, 0))] :: L = L' ∧ Row 37 5 al7 ml7 cl7 (es7.flatMap f5) Nl7 ∧ ml7 = es7.length ∧ es7.map (·.2) = ((lT (T.at 7)).take k7).map tl_ShareGroupDescribeResponseGroupMember ∧ (∀ p : EE, p ∈ es7 → TreeAt H' p.1 p.2)) [(0, .pointer (some ⟨b, o, none⟩)), (2, .pointer (some ⟨b_1, 0, none⟩)), (3, .pointer (some ⟨b_3, 0, none⟩)), (82, .int .i64 ((lT (T.at 7)).length : Int))] (fun k7 l' H' L' h => ?_) (by omega) rfl (.cons rfl (.cons rfl (.cons rfl (.cons rfl (.nil _))))) ⟨none, 0, 0, [], [], rfl, rfl, (Row.nil _ _), rfl, (by simp), (fun p hp => by cases hp)⟩ rfl rfl rfl rfl rfl (fun k7 l' H' L' hk7 le_8 hI => ?_) (fun l' H' L' le_9 hI => ?_)
 · obtain ⟨al7, ml7, cl7, es7, Nl7, rfl, _⟩ := h; exact ⟨rfl, rfl, rfl, rfl⟩
 ·
  obtain ⟨al7, ml7, cl7, es7, Nl7, rfl, rfl, pk70, pk71, pk72, pk73⟩ := hI
  refine sr ?_
  refine mv rfl rfl ?_
  refine asg rfl rfl ?_
  refine nl ?_
  refine sq ?_
  refine rgD 4 .nil mixed ?_
  refine dE 0 (by kernel_rfl) rfl ?_
  refine al Tryz.zeroValue4 rfl rfl (fun b_10 => ?_)
  refine dN .nil (Fz.le.refl _) ?_
  refine dE2 1 2 (by kernel_rfl) rfl rfl ?_ ?_
  ·
   refine st Tryz.sizeOf4 rfl rfl rfl rfl .head ?_
   refine dN .nil (Fz.le.refl _) ?_
   refine dE 2 (by kernel_rfl) rfl ?_
   refine st Tryz.sizeOf4 rfl rfl rfl rfl .head ?_
   refine dN .nil (Fz.le.refl _) ?_
   refine dE 3 (by kernel_rfl) rfl ?_
   refine ld (Says.own .head) Tryz.isAgg4 rfl (Nat.zero_add _).symm rfl rfl ?_
   refine dN .nil (Fz.le.refl _) ?_
   refine dD (by kernel_rfl) ?_
   refine drN .head ?_
   refine Nt ?_
   refine cF rfl ?_
   refine rgD 18 (.skip (.keep (.keep (.keep .nil)))) mixed ?_
   refine dT 0 rfl rfl rfl (by kernel_rfl) (fun _ _ _ h => h) (y_fa0 F37_3 rfl) (.skip (.keep (.keep (.keep .nil)))) (Fz.le.refl _) ?_
   refine dT 1 rfl rfl rfl (by kernel_rfl) (fun _ _ _ h => h) (y_ld (Says.own .head) Tryz.isAgg34 rfl (Nat.zero_add _).symm rfl) (.skip (.keep (.keep (.keep .nil)))) (Fz.le.refl _) ?_
   refine dT 2 rfl rfl rfl (by kernel_rfl) (fun _ _ _ h => h) (y_fa0 F37_3 rfl) (.skip (.keep (.keep (.keep .nil)))) (Fz.le.refl _) ?_
   refine dT 3 rfl rfl rfl (by kernel_rfl) (fun _ _ _ h => h) (y_ld (Says.own .head) Tryz.isAgg34 rfl (Nat.zero_add _).symm rfl) (.skip (.keep (.keep (.keep .nil)))) (Fz.le.refl _) ?_
   refine dT 4 rfl rfl rfl (by kernel_rfl) (fun _ _ _ h => h) (y_ix2 (j := 7) Tryz.runUnderlying34 Tryz.sizeOf37 rfl rfl rfl rfl (by decide)) (.skip (.keep (.keep (.keep .nil)))) (Fz.le.refl _) ?_
   refine dT 5 rfl rfl rfl (by kernel_rfl) (fun _ _ _ h => h) (y_fa F37_3 rfl) (.skip (.keep (.keep (.keep .nil)))) (Fz.le.refl _) ?_
   refine dT 6 rfl rfl rfl (by kernel_rfl) (fun _ _ _ h => h) (y_ld (Says.own (.tail .head)) Tryz.isAgg34 rfl (Nat.zero_add _).symm rfl) (.skip (.keep (.keep (.keep .nil)))) (Fz.le.refl _) ?_
   refine dT 7 rfl rfl rfl (by kernel_rfl) (fun _ _ _ h => h) (y_mv rfl) (.skip (.keep (.keep (.keep .nil)))) (Fz.le.refl _) ?_
   refine dT 8 rfl rfl rfl (by kernel_rfl) (fun _ _ _ h => h) (y_nc rfl) (.skip (.keep (.keep (.keep .nil)))) (Fz.le.refl _) ?_
   refine dT 9 rfl rfl rfl (by kernel_rfl) (fun _ _ _ h => h) (y_fa F193_7 rfl) (.skip (.keep (.keep (.keep .nil)))) (Fz.le.refl _) ?_
   refine dT 10 rfl rfl rfl (by kernel_rfl) (fun _ _ _ h => h) (y_ld (j := 7) (Says.fz (hb.mono (le_4.trans (le_5.trans (le_6.trans (le_7.trans le_8)))))) Tryz.isAgg191 rfl rfl rfl) (.skip (.keep (.keep (.keep .nil)))) (Fz.le.refl _) ?_
   refine dT 11 rfl rfl rfl (by kernel_rfl) (fun _ _ _ h => h) (y_mv rfl) (.skip (.keep (.keep (.keep .nil)))) (Fz.le.refl _) ?_
   obtain ⟨beq_11, oeq_11, haq_11, hlq_11⟩ := ((h2.mono At_ShareGroupDescribeResponseGroupMember.mono (le_4.trans (le_5.trans (le_6.trans (le_7.trans le_8)))))).rows.at_ (ne_nil_of_lt hk7)
   obtain ⟨ceq_11, hAq_11, hbq_11⟩ := hlq_11 k7 hk7
   refine dT 12 rfl rfl rfl (by kernel_rfl) (fun _ _ _ h => h) (y_ixk (j := k7) Tryz.runUnderlying191 Tryz.sizeOf298 rfl haq_11 rfl rfl hk7) (.skip (.keep (.keep (.keep .nil)))) (Fz.le.refl _) ?_
   refine dE 13 (by kernel_rfl) rfl ?_
   refine cl rfl rfl rfl (te_ShareGroupDescribeResponseGroupMember hbq_11 (At_ShareGroupDescribeResponseGroupMember.mono _ _ _ _ (Fz.le.refl _) hAq_11) ((hf.at 7).lTel (List.getElem_mem hk7))) rfl (fun v_ H1 L1 le_12 hR_ => ?_)
   obtain ⟨rfl, ct119, rfl, hT119⟩ := hR_
   refine dN (.skip (.keep (.keep (.keep .nil)))) le_12 ?_
   refine dE 14 (by kernel_rfl) rfl ?_
   refine bs' L34 rfl rfl rfl rfl (fun b_13 => ?_)
   refine dN (.skip (.skip (.keep (.keep (.keep .nil))))) le_12 ?_
   refine dE 15 (by kernel_rfl) rfl ?_
   have hmk : ml7 = k7 := by have h1 := congrArg List.length pk72; rw [List.length_map, List.length_map, List.length_take] at h1; omega
   have hmb := (hf.at 7).lTl
   refine ap (k := 1) (news := f5 ((ct119, tl_ShareGroupDescribeResponseGroupMember (lT (T.at 7))[k7]) : EE)) Tryz.underlying34 I37 rfl rfl pk70 (fun _ => (.tail .head)) (src_says Tryz.underlying34 rfl (fun _ => Says.own .head) (f5_one _)) (by omega) (by unfold maxLen; omega) rfl (fun a121 c121 N121 r121 z121 => ?_)
   rw [flatMap_snoc'] at r121
   refine dN (.skip (.skip (.keep (.keep (.keep .nil))))) le_12 ?_
   refine dE 16 (by kernel_rfl) rfl ?_
   refine ixk (j := 7) Tryz.runUnderlying34 Tryz.sizeOf37 rfl rfl rfl rfl (by decide) rfl ?_
   refine dN (.skip (.skip (.keep (.keep (.keep .nil))))) le_12 ?_
   refine dT 17 rfl rfl rfl (by kernel_rfl) (fun _ _ _ h => h) (y_fa F37_3 rfl) (.skip (.skip (.keep (.keep (.keep .nil))))) le_12 ?_
   refine dE 18 (by kernel_rfl) rfl ?_
   refine st Tryz.sizeOf34 rfl rfl rfl rfl (.tail (.tail (.tail .head))) ?_
   refine dNk (by kernel_rfl) ?_
   refine dD (by kernel_rfl) ?_
   refine Nb ?_
   refine drN .head ?_
   refine fun a_ w_ hA hw => ⟨_, _, _, hA.sub ?_, (le_8.trans le_12), hw, _, rfl, a121, (ml7 + 1), c121, (es7 ++ [((ct119, tl_ShareGroupDescribeResponseGroupMember (lT (T.at 7))[k7]) : EE)]), N121, rfl, rfl, r121, (by simp; omega), (map_take_snoc (g := tl_ShareGroupDescribeResponseGroupMember) hk7 pk72), (fun p hp => (mem_snoc hp).elim (fun h => (pk73 p h).mono le_12) (fun h => h ▸ hT119))⟩
   exact (.cons rfl (.cons rfl (.cons rfl (.cons rfl (.cons rfl (.nil _))))))
  ·
   refine st Tryz.sizeOf4 rfl rfl rfl rfl .head ?_
   refine dN .nil (Fz.le.refl _) ?_
   refine dE 1 (by kernel_rfl) rfl ?_
   refine st Tryz.sizeOf4 rfl rfl rfl rfl .head ?_
   refine dN .nil (Fz.le.refl _) ?_
   refine dE 3 (by kernel_rfl) rfl ?_
   refine ld (Says.own .head) Tryz.isAgg4 rfl (Nat.zero_add _).symm rfl rfl ?_
   refine dN .nil (Fz.le.refl _) ?_
   refine dD (by kernel_rfl) ?_
   refine drN .head ?_
   refine Nt ?_
   refine cT rfl ?_
   refine sq ?_
   refine rgD 17 (.skip (.keep (.keep (.keep .nil)))) mixed ?_
   refine dT 0 rfl rfl rfl (by kernel_rfl) (fun _ _ _ h => h) (y_fa0 F37_3 rfl) (.skip (.keep (.keep (.keep .nil)))) (Fz.le.refl _) ?_
   refine dT 1 rfl rfl rfl (by kernel_rfl) (fun _ _ _ h => h) (y_ld (Says.own .head) Tryz.isAgg34 rfl (Nat.zero_add _).symm rfl) (.skip (.keep (.keep (.keep .nil)))) (Fz.le.refl _) ?_
   refine dT 2 rfl rfl rfl (by kernel_rfl) (fun _ _ _ h => h) (y_ix2 (j := 7) Tryz.runUnderlying34 Tryz.sizeOf37 rfl rfl rfl rfl (by decide)) (.skip (.keep (.keep (.keep .nil)))) (Fz.le.refl _) ?_
   refine dT 3 rfl rfl rfl (by kernel_rfl) (fun _ _ _ h => h) (y_fa F37_3 rfl) (.skip (.keep (.keep (.keep .nil)))) (Fz.le.refl _) ?_
   refine dT 4 rfl rfl rfl (by kernel_rfl) (fun _ _ _ h => h) (y_ld (Says.own (.tail .head)) Tryz.isAgg34 rfl (Nat.zero_add _).symm rfl) (.skip (.keep (.keep (.keep .nil)))) (Fz.le.refl _) ?_
   refine dT 5 rfl rfl rfl (by kernel_rfl) (fun _ _ _ h => h) (y_mv rfl) (.skip (.keep (.keep (.keep .nil)))) (Fz.le.refl _) ?_
   refine dT 6 rfl rfl rfl (by kernel_rfl) (fun _ _ _ h => h) (y_nc rfl) (.skip (.keep (.keep (.keep .nil)))) (Fz.le.refl _) ?_
   refine dT 7 rfl rfl rfl (by kernel_rfl) (fun _ _ _ h => h) (y_fa F193_7 rfl) (.skip (.keep (.keep (.keep .nil)))) (Fz.le.refl _) ?_
   refine dT 8 rfl rfl rfl (by kernel_rfl) (fun _ _ _ h => h) (y_ld (j := 7) (Says.fz (hb.mono (le_4.trans (le_5.trans (le_6.trans (le_7.trans le_8)))))) Tryz.isAgg191 rfl rfl rfl) (.skip (.keep (.keep (.keep .nil)))) (Fz.le.refl _) ?_
   refine dT 9 rfl rfl rfl (by kernel_rfl) (fun _ _ _ h => h) (y_mv rfl) (.skip (.keep (.keep (.keep .nil)))) (Fz.le.refl _) ?_
   obtain ⟨beq_14, oeq_14, haq_14, hlq_14⟩ := ((h2.mono At_ShareGroupDescribeResponseGroupMember.mono (le_4.trans (le_5.trans (le_6.trans (le_7.trans le_8)))))).rows.at_ (ne_nil_of_lt hk7)
   obtain ⟨ceq_14, hAq_14, hbq_14⟩ := hlq_14 k7 hk7
   refine dT 10 rfl rfl rfl (by kernel_rfl) (fun _ _ _ h => h) (y_ixk (j := k7) Tryz.runUnderlying191 Tryz.sizeOf298 rfl haq_14 rfl rfl hk7) (.skip (.keep (.keep (.keep .nil)))) (Fz.le.refl _) ?_
   refine dT 12 rfl rfl rfl (by kernel_rfl) (fun _ _ _ h => h) (y_ls Tryz.runUnderlying34 rfl) (.skip (.keep (.keep (.keep .nil)))) (Fz.le.refl _) ?_
   refine dE2 11 13 (by kernel_rfl) rfl rfl ?_ ?_
   ·
    refine cl rfl rfl rfl (te_ShareGroupDescribeResponseGroupMember hbq_14 (At_ShareGroupDescribeResponseGroupMember.mono _ _ _ _ (Fz.le.refl _) hAq_14) ((hf.at 7).lTel (List.getElem_mem hk7))) rfl (fun v_ H1 L1 le_15 hR_ => ?_)
    obtain ⟨rfl, ct99, rfl, hT99⟩ := hR_
    refine dN (.skip (.keep (.keep (.keep .nil)))) le_15 ?_
    refine dE 13 (by kernel_rfl) rfl ?_
    refine bs' L34 rfl rfl rfl rfl (fun b_16 => ?_)
    refine dN (.skip (.skip (.keep (.keep (.keep .nil))))) le_15 ?_
    refine dE 14 (by kernel_rfl) rfl ?_
    have hmk : ml7 = k7 := by have h1 := congrArg List.length pk72; rw [List.length_map, List.length_map, List.length_take] at h1; omega
    have hmb := (hf.at 7).lTl
    refine ap (k := 1) (news := f5 ((TC.none, Tr.none) : EE)) Tryz.underlying34 I37 rfl rfl pk70 (fun _ => (.tail .head)) (src_says Tryz.underlying34 rfl (fun _ => Says.own .head) (f5_one _)) (by omega) (by unfold maxLen; omega) rfl (fun a102 c102 N102 r102 z102 => ?_)
    refine dN (.skip (.skip (.keep (.keep (.keep .nil))))) le_15 ?_
    refine dE 15 (by kernel_rfl) rfl ?_
    refine ixk (j := 7) Tryz.runUnderlying34 Tryz.sizeOf37 rfl rfl rfl rfl (by decide) rfl ?_
    refine dN (.skip (.skip (.keep (.keep (.keep .nil))))) le_15 ?_
    refine dT 16 rfl rfl rfl (by kernel_rfl) (fun _ _ _ h => h) (y_fa F37_3 rfl) (.skip (.skip (.keep (.keep (.keep .nil))))) le_15 ?_
    refine dE 17 (by kernel_rfl) rfl ?_
    refine st Tryz.sizeOf34 rfl rfl rfl rfl (.tail (.tail (.tail .head))) ?_
    refine dNk (by kernel_rfl) ?_
    refine dD (by kernel_rfl) ?_
    refine Nt ?_
    refine rg ?_
    obtain ⟨gg102, hgg102⟩ := r102.addr (by omega)
    refine ixk (j := ml7) Tryz.runUnderlying34 Tryz.sizeOf37 rfl hgg102 rfl rfl (by omega) rfl ?_
    refine sR (ds := f5 ((ct99, tl_ShareGroupDescribeResponseGroupMember (lT (T.at 7))[k7]) : EE)) r102 hgg102 (fun _ => (.tail .head)) Tryz.sizeOf37 rfl rfl rfl rfl (by omega) (fun N102b r102b => ?_)
    rw [row_put (k := 5) (m := ml7) (A := es7.flatMap f5) (by rw [flatMap_len f5 5 f5_len, pk71]) rfl, flatMap_snoc'] at r102b
    refine nN ?_
    refine Nb ?_
    refine drN .head ?_
    refine fun a_ w_ hA hw => ⟨_, _, _, hA.sub ?_, (le_8.trans le_15), hw, _, rfl, a102, (ml7 + 1), c102, (es7 ++ [((ct99, tl_ShareGroupDescribeResponseGroupMember (lT (T.at 7))[k7]) : EE)]), N102b, rfl, rfl, r102b, (by simp; omega), (map_take_snoc (g := tl_ShareGroupDescribeResponseGroupMember) hk7 pk72), (fun p hp => (mem_snoc hp).elim (fun h => (pk73 p h).mono le_15) (fun h => h ▸ hT99))⟩
    exact (.cons rfl (.cons rfl (.cons rfl (.cons rfl (.cons rfl (.nil _))))))
   ·
    refine bs' L34 rfl rfl rfl rfl (fun b_17 => ?_)
    refine dN (.skip (.skip (.keep (.keep (.keep .nil))))) (Fz.le.refl _) ?_
    refine dE 11 (by kernel_rfl) rfl ?_
    refine cl rfl rfl rfl (te_ShareGroupDescribeResponseGroupMember hbq_14 (At_ShareGroupDescribeResponseGroupMember.mono _ _ _ _ (Fz.le.refl _) hAq_14) ((hf.at 7).lTel (List.getElem_mem hk7))) rfl (fun v_ H1 L1 le_18 hR_ => ?_)
    obtain ⟨rfl, ct99, rfl, hT99⟩ := hR_
    refine dN (.skip (.skip (.keep (.keep (.keep .nil))))) le_18 ?_
    refine dE 14 (by kernel_rfl) rfl ?_
    have hmk : ml7 = k7 := by have h1 := congrArg List.length pk72; rw [List.length_map, List.length_map, List.length_take] at h1; omega
    have hmb := (hf.at 7).lTl
    refine ap (k := 1) (news := f5 ((TC.none, Tr.none) : EE)) Tryz.underlying34 I37 rfl rfl pk70 (fun _ => (.tail .head)) (src_says Tryz.underlying34 rfl (fun _ => Says.own .head) (f5_one _)) (by omega) (by unfold maxLen; omega) rfl (fun a102 c102 N102 r102 z102 => ?_)
    refine dN (.skip (.skip (.keep (.keep (.keep .nil))))) le_18 ?_
    refine dE 15 (by kernel_rfl) rfl ?_
    refine ixk (j := 7) Tryz.runUnderlying34 Tryz.sizeOf37 rfl rfl rfl rfl (by decide) rfl ?_
    refine dN (.skip (.skip (.keep (.keep (.keep .nil))))) le_18 ?_
    refine dT 16 rfl rfl rfl (by kernel_rfl) (fun _ _ _ h => h) (y_fa F37_3 rfl) (.skip (.skip (.keep (.keep (.keep .nil))))) le_18 ?_
    refine dE 17 (by kernel_rfl) rfl ?_
    refine st Tryz.sizeOf34 rfl rfl rfl rfl (.tail (.tail (.tail .head))) ?_
    refine dNk (by kernel_rfl) ?_
    refine dD (by kernel_rfl) ?_
    refine Nt ?_
    refine rg ?_
    obtain ⟨gg102, hgg102⟩ := r102.addr (by omega)
    refine ixk (j := ml7) Tryz.runUnderlying34 Tryz.sizeOf37 rfl hgg102 rfl rfl (by omega) rfl ?_
    refine sR (ds := f5 ((ct99, tl_ShareGroupDescribeResponseGroupMember (lT (T.at 7))[k7]) : EE)) r102 hgg102 (fun _ => (.tail .head)) Tryz.sizeOf37 rfl rfl rfl rfl (by omega) (fun N102b r102b => ?_)
    rw [row_put (k := 5) (m := ml7) (A := es7.flatMap f5) (by rw [flatMap_len f5 5 f5_len, pk71]) rfl, flatMap_snoc'] at r102b
    refine nN ?_
    refine Nb ?_
    refine drN .head ?_
    refine fun a_ w_ hA hw => ⟨_, _, _, hA.sub ?_, (le_8.trans le_18), hw, _, rfl, a102, (ml7 + 1), c102, (es7 ++ [((ct99, tl_ShareGroupDescribeResponseGroupMember (lT (T.at 7))[k7]) : EE)]), N102b, rfl, rfl, r102b, (by simp; omega), (map_take_snoc (g := tl_ShareGroupDescribeResponseGroupMember) hk7 pk72), (fun p hp => (mem_snoc hp).elim (fun h => (pk73 p h).mono le_18) (fun h => h ▸ hT99))⟩
    exact (.cons rfl (.cons rfl (.cons rfl (.cons rfl (.cons rfl (.nil _))))))
 ·
  obtain ⟨al7, ml7, cl7, es7, Nl7, rfl, rfl, pk70, pk71, pk72, pk73⟩ := hI
  refine toWp ?_
  have hes7 : es7.map (·.2) = (lT (T.at 7)).map tl_ShareGroupDescribeResponseGroupMember := by rw [pk72, List.take_length]
  have hm7 : ml7 = ((lT (T.at 7)).map tl_ShareGroupDescribeResponseGroupMember).length := by rw [← hes7, List.length_map]; exact pk71
  refine frW pk70 .head (fun Hl7 hll7 hzl7 => ?_)
  have ht7 := TreesAt.row hzl7 pk71 pk70.le.1 (by have h1 := congrArg List.length hes7; rw [List.length_map, List.length_map] at h1; unfold B47; omega) (fun p hp => (pk73 p hp).mono hll7)
  rw [hes7] at ht7
  subst hm7
  refine sq ?_
  refine rgD 9 (.keep (.keep (.keep .nil))) mixed ?_
  refine dT 0 rfl rfl rfl (by kernel_rfl) (fun _ _ _ h => h) (y_fa0 F37_3 rfl) (.keep (.keep (.keep .nil))) (Fz.le.refl _) ?_
  refine dT 1 rfl rfl rfl (by kernel_rfl) (fun _ _ _ h => h) (y_ld (Says.own .head) Tryz.isAgg34 rfl (Nat.zero_add _).symm rfl) (.keep (.keep (.keep .nil))) (Fz.le.refl _) ?_
  refine dT 2 rfl rfl rfl (by kernel_rfl) (fun _ _ _ h => h) (y_mv rfl) (.keep (.keep (.keep .nil))) (Fz.le.refl _) ?_
  refine dT 3 rfl rfl rfl (by kernel_rfl) (fun _ _ _ h => h) (y_nc rfl) (.keep (.keep (.keep .nil))) (Fz.le.refl _) ?_
  refine dT 4 rfl rfl rfl (by kernel_rfl) (fun _ _ _ h => h) (y_fa F193_8 rfl) (.keep (.keep (.keep .nil))) (Fz.le.refl _) ?_
  refine dT 5 rfl rfl rfl (by kernel_rfl) (fun _ _ _ h => h) (y_ld (j := 8) (Says.fz (hb.mono (le_4.trans (le_5.trans (le_6.trans (le_7.trans (le_9.trans hll7))))))) Tryz.isAgg21 rfl rfl rfl) (.keep (.keep (.keep .nil))) (Fz.le.refl _) ?_
  refine dT 6 rfl rfl rfl (by kernel_rfl) (fun _ _ _ h => h) (y_cv Tryz.runUnderlying21 Tryz.runUnderlying2 rfl (i32_64 _)) (.keep (.keep (.keep .nil))) (Fz.le.refl _) ?_
  refine dT 7 rfl rfl rfl (by kernel_rfl) (fun _ _ _ h => h) (y_bd S37 rfl rfl) (.keep (.keep (.keep .nil))) (Fz.le.refl _) ?_
  refine dT 8 rfl rfl rfl (by kernel_rfl) (fun _ _ _ h => h) (y_ix2 (j := 8) Tryz.runUnderlying34 Tryz.sizeOf37 rfl rfl rfl rfl (by decide)) (.keep (.keep (.keep .nil))) (Fz.le.refl _) ?_
  refine dE 9 (by kernel_rfl) rfl ?_
  refine sa Tryz.sizeOf37 rfl rfl rfl rfl rfl (.tail .head) ?_
  refine dNk (by kernel_rfl) ?_
  refine dD (by kernel_rfl) ?_
  refine Nt ?_
  refine sr ?_
  refine mv rfl rfl ?_
  refine nc rfl rfl ?_
  refine fa F193_9 rfl rfl ?_
  refine mkf rfl rfl ?_
  have hkv_ := (h3.mono (le_4.trans (le_5.trans (le_6.trans (le_7.trans (le_9.trans hll7))))))
  obtain ⟨kvs, hM, hlen, hel⟩ := hkv_
  have hfu := hf.u
  refine cl rfl rfl rfl (t_each (j := 9) (I := fun i H1 Y => TgI 72 b_3 37 (.int .i64 0) (.slice none 0 0) (.bool false) (_) T.u i H1 Y) (hb.mono (le_4.trans (le_5.trans (le_6.trans (le_7.trans (le_9.trans hll7)))))) rfl hM (by omega) (fun i H1 H2 Y hle h => h.mono hle) TgI.start (fun i k v H1 Y L1 hi hle hI => ?_)) rfl (fun v_ H1 L1 le_20 hR_ => ?_)
  ·
   obtain ⟨s, h1, ⟨va, vc, rfl, hx⟩, h2, h3⟩ := hel i k v hi
   have hik := sortKv_lt hi
   exact TgI.step (fun {_ _ _ _ _ _ _ _ _ _ _ _ _ _ _ _} => tc_278) hf.v (by omega) h1 (hx.mono hle) h2 h3 hI
  rw [hlen] at hR_
  obtain ⟨_, rfl, aU, cU, NU, esU, rfl, hrU, heU, hgU⟩ := hR_
  refine splL ?_
  rw [List.take_length] at heU
  refine frL hrU (.tail .head) (fun HU hleU hzU => ?_)
  have hU := (TagsAt.told hzU hrU heU hfu (fun p hp => (hgU p hp).mono hleU)).1
  refine nl ?_
  refine sr ?_
  refine fa0 F37_4 rfl rfl ?_
  refine ld (Says.own .head) Tryz.isAgg35 rfl (Nat.zero_add _).symm rfl rfl ?_
  refine cl rfl rfl rfl (k_sorted hU (h3.mono (le_4.trans (le_5.trans (le_6.trans (le_7.trans (le_9.trans (hll7.trans (le_20.trans hleU)))))))).rise) rfl (fun v_ H1 L1 hle_ hR_ => ?_)
  obtain ⟨rfl, rfl⟩ := hR_
  refine nl ?_
  refine sr ?_
  refine la (Says.own .head) Tryz.isAgg37 Tryz.sizeOf37 rfl (Nat.zero_add _).symm rfl rfl ?_
  refine sa Tryz.sizeOf37 rfl rfl rfl rfl rfl (.tail (.tail .head)) ?_
  refine nl ?_
  refine drW .head ?_
  refine frW (Row.whole (e := 37) (size := 5) (m := 9) (ds := [.int .i64 (IntKind.i16.wrap (T.at 0).n), .slice none 0 0, .bool false, .slice none 0 0, .slice none 0 0, .int .i64 0, .slice ct22.sa (sT (T.at 1)).length ct22.sc, .bool (T.at 1).nul, .slice ct22.la 0 ct22.lc, .slice ct22.ua 0 ct22.uc, .int .i64 0, .slice (some ⟨b30, 0, none⟩) (T.at 2).s.length cp30, .bool false, .slice none 0 0, .slice none 0 0, .int .i64 0, .slice (some ⟨b39, 0, none⟩) (T.at 3).s.length cp39, .bool false, .slice none 0 0, .slice none 0 0, .int .i64 (IntKind.i32.wrap (T.at 4).n), .slice none 0 0, .bool false, .slice none 0 0, .slice none 0 0, .int .i64 (IntKind.i32.wrap (T.at 5).n), .slice none 0 0, .bool false, .slice none 0 0, .slice none 0 0, .int .i64 0, .slice (some ⟨b66, 0, none⟩) (T.at 6).s.length cp66, .bool false, .slice none 0 0, .slice none 0 0, .int .i64 0, .slice none 0 0, .bool a7.isNone, .slice al7 ((lT (T.at 7)).map tl_ShareGroupDescribeResponseGroupMember).length cl7, .slice none 0 0, .int .i64 (IntKind.i32.wrap (T.at 8).n), .slice none 0 0, .bool false, .slice none 0 0, .slice none 0 0]) rfl (by unfold maxLen; omega)) .head (fun H9 hle9 hz9 => ?_)
  have hrb : H9.at b_2 0 [.int .i64 (IntKind.i16.wrap (T.at 0).n), .slice none 0 0, .bool false, .slice none 0 0, .slice none 0 0, .int .i64 0, .slice ct22.sa (sT (T.at 1)).length ct22.sc, .bool (T.at 1).nul, .slice ct22.la 0 ct22.lc, .slice ct22.ua 0 ct22.uc, .int .i64 0, .slice (some ⟨b30, 0, none⟩) (T.at 2).s.length cp30, .bool false, .slice none 0 0, .slice none 0 0, .int .i64 0, .slice (some ⟨b39, 0, none⟩) (T.at 3).s.length cp39, .bool false, .slice none 0 0, .slice none 0 0, .int .i64 (IntKind.i32.wrap (T.at 4).n), .slice none 0 0, .bool false, .slice none 0 0, .slice none 0 0, .int .i64 (IntKind.i32.wrap (T.at 5).n), .slice none 0 0, .bool false, .slice none 0 0, .slice none 0 0, .int .i64 0, .slice (some ⟨b66, 0, none⟩) (T.at 6).s.length cp66, .bool false, .slice none 0 0, .slice none 0 0, .int .i64 0, .slice none 0 0, .bool a7.isNone, .slice al7 ((lT (T.at 7)).map tl_ShareGroupDescribeResponseGroupMember).length cl7, .slice none 0 0, .int .i64 (IntKind.i32.wrap (T.at 8).n), .slice none 0 0, .bool false, .slice none 0 0, .slice none 0 0] := by
   rcases hz9 with ⟨h, _⟩ | ⟨g, h, h2⟩
   · cases h
   · cases h; exact h2
  rw [(h2).nul] at hrb
  have hrb2 : H9.at b_2 0 (([((TC.none : TC), (Tr.mk (IntKind.i16.wrap (T.at 0).n) [] false [] [] : Tr)), ((ct22 : TC), (Tr.mk 0 (sT (T.at 1)) (T.at 1).nul [] [] : Tr)), ((⟨some ⟨b30, 0, none⟩, cp30, none, 0, none, 0⟩ : TC), (Tr.mk 0 (T.at 2).s false [] [] : Tr)), ((⟨some ⟨b39, 0, none⟩, cp39, none, 0, none, 0⟩ : TC), (Tr.mk 0 (T.at 3).s false [] [] : Tr)), ((TC.none : TC), (Tr.mk (IntKind.i32.wrap (T.at 4).n) [] false [] [] : Tr)), ((TC.none : TC), (Tr.mk (IntKind.i32.wrap (T.at 5).n) [] false [] [] : Tr)), ((⟨some ⟨b66, 0, none⟩, cp66, none, 0, none, 0⟩ : TC), (Tr.mk 0 (T.at 6).s false [] [] : Tr)), ((⟨none, 0, al7, cl7, none, 0⟩ : TC), (Tr.mk 0 [] (T.at 7).nul ((lT (T.at 7)).map tl_ShareGroupDescribeResponseGroupMember) [] : Tr)), ((TC.none : TC), (Tr.mk (IntKind.i32.wrap (T.at 8).n) [] false [] [] : Tr))] : List EE).flatMap fun p => p.1.cells p.2) := by exact hrb
  have hl9 : TreesAt H9 (some ⟨b_2, 0, none⟩) 9 [(.mk (IntKind.i16.wrap (T.at 0).n) [] false [] []), (.mk 0 (sT (T.at 1)) (T.at 1).nul [] []), (.mk 0 (T.at 2).s false [] []), (.mk 0 (T.at 3).s false [] []), (.mk (IntKind.i32.wrap (T.at 4).n) [] false [] []), (.mk (IntKind.i32.wrap (T.at 5).n) [] false [] []), (.mk 0 (T.at 6).s false [] []), (.mk 0 [] (T.at 7).nul ((lT (T.at 7)).map tl_ShareGroupDescribeResponseGroupMember) []), (.mk (IntKind.i32.wrap (T.at 8).n) [] false [] [])] := by
   refine TreesAt.row (es := [((TC.none : TC), (Tr.mk (IntKind.i16.wrap (T.at 0).n) [] false [] [] : Tr)), ((ct22 : TC), (Tr.mk 0 (sT (T.at 1)) (T.at 1).nul [] [] : Tr)), ((⟨some ⟨b30, 0, none⟩, cp30, none, 0, none, 0⟩ : TC), (Tr.mk 0 (T.at 2).s false [] [] : Tr)), ((⟨some ⟨b39, 0, none⟩, cp39, none, 0, none, 0⟩ : TC), (Tr.mk 0 (T.at 3).s false [] [] : Tr)), ((TC.none : TC), (Tr.mk (IntKind.i32.wrap (T.at 4).n) [] false [] [] : Tr)), ((TC.none : TC), (Tr.mk (IntKind.i32.wrap (T.at 5).n) [] false [] [] : Tr)), ((⟨some ⟨b66, 0, none⟩, cp66, none, 0, none, 0⟩ : TC), (Tr.mk 0 (T.at 6).s false [] [] : Tr)), ((⟨none, 0, al7, cl7, none, 0⟩ : TC), (Tr.mk 0 [] (T.at 7).nul ((lT (T.at 7)).map tl_ShareGroupDescribeResponseGroupMember) [] : Tr)), ((TC.none : TC), (Tr.mk (IntKind.i32.wrap (T.at 8).n) [] false [] [] : Tr))]) (.inr ⟨_, rfl, hrb2⟩) rfl (Nat.le_refl _) (Nat.le_of_ble_eq_true rfl) ?_
   intro p hp
   simp only [List.mem_cons, List.not_mem_nil, or_false] at hp
   rcases hp with rfl | rfl | rfl | rfl | rfl | rfl | rfl | rfl | rfl
   · exact (.of (.nil _) (.nil _) (.nil _))
   · exact (hT22.mono (le_5.trans (le_6.trans (le_7.trans (le_9.trans (hll7.trans (le_20.trans (hleU.trans hle9))))))))
   · exact (.of (hb30.mono (le_6.trans (le_7.trans (le_9.trans (hll7.trans (le_20.trans (hleU.trans hle9))))))) (.nil _) (.nil _))
   · exact (.of (hb39.mono (le_7.trans (le_9.trans (hll7.trans (le_20.trans (hleU.trans hle9)))))) (.nil _) (.nil _))
   · exact (.of (.nil _) (.nil _) (.nil _))
   · exact (.of (.nil _) (.nil _) (.nil _))
   · exact (.of (hb66.mono (le_9.trans (hll7.trans (le_20.trans (hleU.trans hle9))))) (.nil _) (.nil _))
   · exact (.of (.nil _) (ht7.mono (le_20.trans (hleU.trans hle9))) (.nil _))
   · exact (.of (.nil _) (.nil _) (.nil _))
  exact rC rfl Tryz.isAgg37 Tryz.sizeOf37 rfl .head rfl (le_4.trans (le_5.trans (le_6.trans (le_7.trans (le_9.trans (hll7.trans (le_20.trans (hleU.trans hle9)))))))) (fun _ _ h => h) ⟨rfl, ⟨none, 0, some ⟨b_2, 0, none⟩, 9, aU, cU⟩, rfl, .of (.nil _) hl9 (hU.mono hle9)⟩
def tl_ShareGroupDescribeResponse (T : Tr) : Tr := .mk 0 [] false [(.mk (IntKind.i32.wrap (T.at 0).n) [] false [] []), (.mk 0 [] (T.at 1).nul ((lT (T.at 1)).map tl_ShareGroupDescribeResponseGroup) [])] T.u
theorem te_ShareGroupDescribeResponse {H : Fz} {L : Own} {b o : Nat} {cs : List Value} {T : Tr} {ver : Int} (hb : H.at b o cs) (hA : At_ShareGroupDescribeResponse ver H T cs) (hf : Fits T) :
  Fn Tryz.prog 108 [.pointer (some ⟨b, o, none⟩)] H L (fun v H' L' => L = L' ∧ ∃ c : TC, v = .agg (c.cells (tl_ShareGroupDescribeResponse T)).toArray ∧ TreeAt H' c (tl_ShareGroupDescribeResponse T)) := by
 obtain ⟨a1, c1, mt, rfl, h1, h2⟩ := hA
 refine Fn.mk Tryz.call108 Tryz.func108 rfl Tryz.ntmps108 rfl ?_
 refine sr ?_
 refine al Tryz.zeroValue37 rfl rfl (fun b_1 => ?_)
 refine nl ?_
 refine sr ?_
 refine mkC (m := 2) (zs := [.int .i64 0, .slice none 0 0, .bool false, .slice none 0 0, .slice none 0 0]) Tryz.underlying34 I37 rfl rfl rfl rfl rfl rfl (by decide) (by unfold maxLen; omega) rfl (fun b_2 => ?_)
 refine bd' S37 rfl rfl rfl ?_
 refine al Tryz.zeroValue37 rfl rfl (fun b_3 => ?_)
 refine sa Tryz.sizeOf37 rfl rfl rfl rfl rfl .head ?_
 refine nl ?_
 refine sq ?_
 refine rgD 9 (.keep (.keep (.keep .nil))) mixed ?_
 refine dT 0 rfl rfl rfl (by kernel_rfl) (fun _ _ _ h => h) (y_fa0 F37_3 rfl) (.keep (.keep (.keep .nil))) (Fz.le.refl _) ?_
 refine dT 1 rfl rfl rfl (by kernel_rfl) (fun _ _ _ h => h) (y_ld (Says.own .head) Tryz.isAgg34 rfl (Nat.zero_add _).symm rfl) (.keep (.keep (.keep .nil))) (Fz.le.refl _) ?_
 refine dT 2 rfl rfl rfl (by kernel_rfl) (fun _ _ _ h => h) (y_mv rfl) (.keep (.keep (.keep .nil))) (Fz.le.refl _) ?_
 refine dT 3 rfl rfl rfl (by kernel_rfl) (fun _ _ _ h => h) (y_nc rfl) (.keep (.keep (.keep .nil))) (Fz.le.refl _) ?_
 refine dT 4 rfl rfl rfl (by kernel_rfl) (fun _ _ _ h => h) (y_fa F188_1 rfl) (.keep (.keep (.keep .nil))) (Fz.le.refl _) ?_
 refine dT 5 rfl rfl rfl (by kernel_rfl) (fun _ _ _ h => h) (y_ld (j := 1) (Says.fz hb) Tryz.isAgg21 rfl rfl rfl) (.keep (.keep (.keep .nil))) (Fz.le.refl _) ?_
 refine dT 6 rfl rfl rfl (by kernel_rfl) (fun _ _ _ h => h) (y_cv Tryz.runUnderlying21 Tryz.runUnderlying2 rfl (i32_64 _)) (.keep (.keep (.keep .nil))) (Fz.le.refl _) ?_
 refine dT 7 rfl rfl rfl (by kernel_rfl) (fun _ _ _ h => h) (y_bd S37 rfl rfl) (.keep (.keep (.keep .nil))) (Fz.le.refl _) ?_
 refine dT 8 rfl rfl rfl (by kernel_rfl) (fun _ _ _ h => h) (y_ix2 (j := 0) Tryz.runUnderlying34 Tryz.sizeOf37 rfl rfl rfl rfl (by decide)) (.keep (.keep (.keep .nil))) (Fz.le.refl _) ?_
 refine dE 9 (by kernel_rfl) rfl ?_
 refine sa Tryz.sizeOf37 rfl rfl rfl rfl rfl (.tail .head) ?_
 refine dNk (by kernel_rfl) ?_
 refine dD (by kernel_rfl) ?_
 refine Nt ?_
 refine sq ?_
 refine rgD 9 (.keep (.keep (.keep .nil))) mixed ?_
 refine dT 0 rfl rfl rfl (by kernel_rfl) (fun _ _ _ h => h) (y_fa0 F37_3 rfl) (.keep (.keep (.keep .nil))) (Fz.le.refl _) ?_
 refine dT 1 rfl rfl rfl (by kernel_rfl) (fun _ _ _ h => h) (y_ld (Says.own .head) Tryz.isAgg34 rfl (Nat.zero_add _).symm rfl) (.keep (.keep (.keep .nil))) (Fz.le.refl _) ?_
 refine dT 2 rfl rfl rfl (by kernel_rfl) (fun _ _ _ h => h) (y_mv rfl) (.keep (.keep (.keep .nil))) (Fz.le.refl _) ?_
 refine dT 3 rfl rfl rfl (by kernel_rfl) (fun _ _ _ h => h) (y_nc rfl) (.keep (.keep (.keep .nil))) (Fz.le.refl _) ?_
 refine dT 4 rfl rfl rfl (by kernel_rfl) (fun _ _ _ h => h) (y_fa F188_2 rfl) (.keep (.keep (.keep .nil))) (Fz.le.refl _) ?_
 refine dT 5 rfl rfl rfl (by kernel_rfl) (fun _ _ _ h => h) (y_ld (j := 2) (Says.fz hb) Tryz.isAgg186 rfl rfl rfl) (.keep (.keep (.keep .nil))) (Fz.le.refl _) ?_
 refine dT 6 rfl rfl rfl (by kernel_rfl) (fun _ _ _ h => h) (y_esn Tryz.underlying186 rfl) (.keep (.keep (.keep .nil))) (Fz.le.refl _) ?_
 refine dE 7 (by kernel_rfl) rfl ?_
 refine ixk (j := 1) Tryz.runUnderlying34 Tryz.sizeOf37 rfl rfl rfl rfl (by decide) rfl ?_
 refine dN (.keep (.keep (.keep .nil))) (Fz.le.refl _) ?_
 refine dT 8 rfl rfl rfl (by kernel_rfl) (fun _ _ _ h => h) (y_fa F37_2 rfl) (.keep (.keep (.keep .nil))) (Fz.le.refl _) ?_
 refine dE 9 (by kernel_rfl) rfl ?_
 refine st Tryz.sizeOf4 rfl rfl rfl rfl (.tail .head) ?_
 refine dNk (by kernel_rfl) ?_
 refine dD (by kernel_rfl) ?_
 refine Nt ?_
 refine sq ?_
 refine sr ?_
 refine mv rfl rfl ?_
 refine nc rfl rfl ?_
 refine fa F188_2 rfl rfl ?_
 refine ld (Says.fz hb) Tryz.isAgg186 rfl rfl rfl rfl ?_
 refine ls Tryz.runUnderlying186 rfl rfl ?_
 refine mv rfl rfl ?_
 refine nl ?_
 have hlm1 := (hf.at 1).lTl
 refine nulC2 ?_
 refine fr ((lT (T.at 1)).length) (fun k1 l' H' L' => ∃ (al1 : Option Addr), ∃ (ml1 : Nat), ∃ (cl1 : Nat), ∃ (es1 : List EE), ∃ (Nl1 : Chunk), [(0, .pointer (some ⟨b, o, none⟩)), (2, .pointer (some ⟨b_1, 0, none⟩)), (3, .pointer (some ⟨b_3, 0, none⟩)), (29, .int .i64 ((lT (T.at 1)).length : Int))] = l' ∧ Nl1 :: [(b_3, .cells [.int .i64 0, .slice none 0 0, .bool false, _, .slice none 0 0].toArray 37 (0, 0))] :: [(b_2, .cells [.int .i64 (IntKind.i32.wrap (T.at 0).n), .slice none 0 0, .bool false, .slice none 0 0, .slice none 0 0, .int .i64 0, .slice none 0 0, .bool a1.isNone, .slice al1 ml1 cl1, .slice none 0 0].toArray 37 (0, 0))] :: [(b_1, .cells [.int .i64 0, .slice none 0 0, .bool false, .slice none 0 0, .slice none 0 0].toArray 37 (0, 0))] :: L = L' ∧ Row 37 5 al1 ml1 cl1 (es1.flatMap f5) Nl1 ∧ ml1 = es1.length ∧ es1.map (·.2) = ((lT (T.at 1)).take k1).map tl_ShareGroupDescribeResponseGroup ∧ (∀ p : EE, p ∈ es1 → TreeAt H' p.1 p.2)) [(0, .pointer (some ⟨b, o, none⟩)), (2, .pointer (some ⟨b_1, 0, none⟩)), (3, .pointer (some ⟨b_3, 0, none⟩)), (29, .int .i64 ((lT (T.at 1)).length : Int))] (fun k1 l' H' L' h => ?_) (by omega) rfl (.cons rfl (.cons rfl (.cons rfl (.cons rfl (.nil _))))) ⟨none, 0, 0, [], [], rfl, rfl, (Row.nil _ _), rfl, (by simp), (fun p hp => by cases hp)⟩ rfl rfl rfl rfl rfl (fun k1 l' H' L' hk1 le_4 hI => ?_) (fun l' H' L' le_5 hI => ?_)
 · obtain ⟨al1, ml1, cl1, es1, Nl1, rfl, _⟩ := h; exact ⟨rfl, rfl, rfl, rfl⟩
 ·
  obtain ⟨al1, ml1, cl1, es1, Nl1, rfl, rfl, pk10, pk11, pk12, pk13⟩ := hI
  refine sr ?_
  refine mv rfl rfl ?_
  refine asg rfl rfl ?_
  refine nl ?_
  refine sq ?_
  refine rgD 4 .nil mixed ?_
  refine dE 0 (by kernel_rfl) rfl ?_
  refine al Tryz.zeroValue4 rfl rfl (fun b_6 => ?_)
  refine dN .nil (Fz.le.refl _) ?_
  refine dE2 1 2 (by kernel_rfl) rfl rfl ?_ ?_
  ·
   refine st Tryz.sizeOf4 rfl rfl rfl rfl .head ?_
   refine dN .nil (Fz.le.refl _) ?_
   refine dE 2 (by kernel_rfl) rfl ?_
   refine st Tryz.sizeOf4 rfl rfl rfl rfl .head ?_
   refine dN .nil (Fz.le.refl _) ?_
   refine dE 3 (by kernel_rfl) rfl ?_
   refine ld (Says.own .head) Tryz.isAgg4 rfl (Nat.zero_add _).symm rfl rfl ?_
   refine dN .nil (Fz.le.refl _) ?_
   refine dD (by kernel_rfl) ?_
   refine drN .head ?_
   refine Nt ?_
   refine cF rfl ?_
   refine rgD 18 (.skip (.keep (.keep (.keep .nil)))) mixed ?_
   refine dT 0 rfl rfl rfl (by kernel_rfl) (fun _ _ _ h => h) (y_fa0 F37_3 rfl) (.skip (.keep (.keep (.keep .nil)))) (Fz.le.refl _) ?_
   refine dT 1 rfl rfl rfl (by kernel_rfl) (fun _ _ _ h => h) (y_ld (Says.own .head) Tryz.isAgg34 rfl (Nat.zero_add _).symm rfl) (.skip (.keep (.keep (.keep .nil)))) (Fz.le.refl _) ?_
   refine dT 2 rfl rfl rfl (by kernel_rfl) (fun _ _ _ h => h) (y_fa0 F37_3 rfl) (.skip (.keep (.keep (.keep .nil)))) (Fz.le.refl _) ?_
   refine dT 3 rfl rfl rfl (by kernel_rfl) (fun _ _ _ h => h) (y_ld (Says.own .head) Tryz.isAgg34 rfl (Nat.zero_add _).symm rfl) (.skip (.keep (.keep (.keep .nil)))) (Fz.le.refl _) ?_
   refine dT 4 rfl rfl rfl (by kernel_rfl) (fun _ _ _ h => h) (y_ix2 (j := 1) Tryz.runUnderlying34 Tryz.sizeOf37 rfl rfl rfl rfl (by decide)) (.skip (.keep (.keep (.keep .nil)))) (Fz.le.refl _) ?_
   refine dT 5 rfl rfl rfl (by kernel_rfl) (fun _ _ _ h => h) (y_fa F37_3 rfl) (.skip (.keep (.keep (.keep .nil)))) (Fz.le.refl _) ?_
   refine dT 6 rfl rfl rfl (by kernel_rfl) (fun _ _ _ h => h) (y_ld (Says.own (.tail .head)) Tryz.isAgg34 rfl (Nat.zero_add _).symm rfl) (.skip (.keep (.keep (.keep .nil)))) (Fz.le.refl _) ?_
   refine dT 7 rfl rfl rfl (by kernel_rfl) (fun _ _ _ h => h) (y_mv rfl) (.skip (.keep (.keep (.keep .nil)))) (Fz.le.refl _) ?_
   refine dT 8 rfl rfl rfl (by kernel_rfl) (fun _ _ _ h => h) (y_nc rfl) (.skip (.keep (.keep (.keep .nil)))) (Fz.le.refl _) ?_
   refine dT 9 rfl rfl rfl (by kernel_rfl) (fun _ _ _ h => h) (y_fa F188_2 rfl) (.skip (.keep (.keep (.keep .nil)))) (Fz.le.refl _) ?_
   refine dT 10 rfl rfl rfl (by kernel_rfl) (fun _ _ _ h => h) (y_ld (j := 2) (Says.fz (hb.mono le_4)) Tryz.isAgg186 rfl rfl rfl) (.skip (.keep (.keep (.keep .nil)))) (Fz.le.refl _) ?_
   refine dT 11 rfl rfl rfl (by kernel_rfl) (fun _ _ _ h => h) (y_mv rfl) (.skip (.keep (.keep (.keep .nil)))) (Fz.le.refl _) ?_
   obtain ⟨beq_7, oeq_7, haq_7, hlq_7⟩ := ((h1.mono At_ShareGroupDescribeResponseGroup.mono le_4)).rows.at_ (ne_nil_of_lt hk1)
   obtain ⟨ceq_7, hAq_7, hbq_7⟩ := hlq_7 k1 hk1
   refine dT 12 rfl rfl rfl (by kernel_rfl) (fun _ _ _ h => h) (y_ixk (j := k1) Tryz.runUnderlying186 Tryz.sizeOf193 rfl haq_7 rfl rfl hk1) (.skip (.keep (.keep (.keep .nil)))) (Fz.le.refl _) ?_
   refine dE 13 (by kernel_rfl) rfl ?_
   refine cl rfl rfl rfl (te_ShareGroupDescribeResponseGroup hbq_7 (At_ShareGroupDescribeResponseGroup.mono _ _ _ _ (Fz.le.refl _) hAq_7) ((hf.at 1).lTel (List.getElem_mem hk1))) rfl (fun v_ H1 L1 le_8 hR_ => ?_)
   obtain ⟨rfl, ct66, rfl, hT66⟩ := hR_
   refine dN (.skip (.keep (.keep (.keep .nil)))) le_8 ?_
   refine dE 14 (by kernel_rfl) rfl ?_
   refine bs' L34 rfl rfl rfl rfl (fun b_9 => ?_)
   refine dN (.skip (.skip (.keep (.keep (.keep .nil))))) le_8 ?_
   refine dE 15 (by kernel_rfl) rfl ?_
   have hmk : ml1 = k1 := by have h1 := congrArg List.length pk12; rw [List.length_map, List.length_map, List.length_take] at h1; omega
   have hmb := (hf.at 1).lTl
   refine ap (k := 1) (news := f5 ((ct66, tl_ShareGroupDescribeResponseGroup (lT (T.at 1))[k1]) : EE)) Tryz.underlying34 I37 rfl rfl pk10 (fun _ => (.tail .head)) (src_says Tryz.underlying34 rfl (fun _ => Says.own .head) (f5_one _)) (by omega) (by unfold maxLen; omega) rfl (fun a68 c68 N68 r68 z68 => ?_)
   rw [flatMap_snoc'] at r68
   refine dN (.skip (.skip (.keep (.keep (.keep .nil))))) le_8 ?_
   refine dE 16 (by kernel_rfl) rfl ?_
   refine ixk (j := 1) Tryz.runUnderlying34 Tryz.sizeOf37 rfl rfl rfl rfl (by decide) rfl ?_
   refine dN (.skip (.skip (.keep (.keep (.keep .nil))))) le_8 ?_
   refine dT 17 rfl rfl rfl (by kernel_rfl) (fun _ _ _ h => h) (y_fa F37_3 rfl) (.skip (.skip (.keep (.keep (.keep .nil))))) le_8 ?_
   refine dE 18 (by kernel_rfl) rfl ?_
   refine st Tryz.sizeOf34 rfl rfl rfl rfl (.tail (.tail (.tail .head))) ?_
   refine dNk (by kernel_rfl) ?_
   refine dD (by kernel_rfl) ?_
   refine Nb ?_
   refine drN .head ?_
   refine fun a_ w_ hA hw => ⟨_, _, _, hA.sub ?_, (le_4.trans le_8), hw, _, rfl, a68, (ml1 + 1), c68, (es1 ++ [((ct66, tl_ShareGroupDescribeResponseGroup (lT (T.at 1))[k1]) : EE)]), N68, rfl, rfl, r68, (by simp; omega), (map_take_snoc (g := tl_ShareGroupDescribeResponseGroup) hk1 pk12), (fun p hp => (mem_snoc hp).elim (fun h => (pk13 p h).mono le_8) (fun h => h ▸ hT66))⟩
   exact (.cons rfl (.cons rfl (.cons rfl (.cons rfl (.cons rfl (.nil _))))))
  ·
   refine st Tryz.sizeOf4 rfl rfl rfl rfl .head ?_
   refine dN .nil (Fz.le.refl _) ?_
   refine dE 1 (by kernel_rfl) rfl ?_
   refine st Tryz.sizeOf4 rfl rfl rfl rfl .head ?_
   refine dN .nil (Fz.le.refl _) ?_
   refine dE 3 (by kernel_rfl) rfl ?_
   refine ld (Says.own .head) Tryz.isAgg4 rfl (Nat.zero_add _).symm rfl rfl ?_
   refine dN .nil (Fz.le.refl _) ?_
   refine dD (by kernel_rfl) ?_
   refine drN .head ?_
   refine Nt ?_
   refine cT rfl ?_
   refine sq ?_
   refine rgD 17 (.skip (.keep (.keep (.keep .nil)))) mixed ?_
   refine dT 0 rfl rfl rfl (by kernel_rfl) (fun _ _ _ h => h) (y_fa0 F37_3 rfl) (.skip (.keep (.keep (.keep .nil)))) (Fz.le.refl _) ?_
   refine dT 1 rfl rfl rfl (by kernel_rfl) (fun _ _ _ h => h) (y_ld (Says.own .head) Tryz.isAgg34 rfl (Nat.zero_add _).symm rfl) (.skip (.keep (.keep (.keep .nil)))) (Fz.le.refl _) ?_
   refine dT 2 rfl rfl rfl (by kernel_rfl) (fun _ _ _ h => h) (y_ix2 (j := 1) Tryz.runUnderlying34 Tryz.sizeOf37 rfl rfl rfl rfl (by decide)) (.skip (.keep (.keep (.keep .nil)))) (Fz.le.refl _) ?_
   refine dT 3 rfl rfl rfl (by kernel_rfl) (fun _ _ _ h => h) (y_fa F37_3 rfl) (.skip (.keep (.keep (.keep .nil)))) (Fz.le.refl _) ?_
   refine dT 4 rfl rfl rfl (by kernel_rfl) (fun _ _ _ h => h) (y_ld (Says.own (.tail .head)) Tryz.isAgg34 rfl (Nat.zero_add _).symm rfl) (.skip (.keep (.keep (.keep .nil)))) (Fz.le.refl _) ?_
   refine dT 5 rfl rfl rfl (by kernel_rfl) (fun _ _ _ h => h) (y_mv rfl) (.skip (.keep (.keep (.keep .nil)))) (Fz.le.refl _) ?_
   refine dT 6 rfl rfl rfl (by kernel_rfl) (fun _ _ _ h => h) (y_nc rfl) (.skip (.keep (.keep (.keep .nil)))) (Fz.le.refl _) ?_
   refine dT 7 rfl rfl rfl (by kernel_rfl) (fun _ _ _ h => h) (y_fa F188_2 rfl) (.skip (.keep (.keep (.keep .nil)))) (Fz.le.refl _) ?_
   refine dT 8 rfl rfl rfl (by kernel_rfl) (fun _ _ _ h => h) (y_ld (j := 2) (Says.fz (hb.mono le_4)) Tryz.isAgg186 rfl rfl rfl) (.skip (.keep (.keep (.keep .nil)))) (Fz.le.refl _) ?_
   refine dT 9 rfl rfl rfl (by kernel_rfl) (fun _ _ _ h => h) (y_mv rfl) (.skip (.keep (.keep (.keep .nil)))) (Fz.le.refl _) ?_
   obtain ⟨beq_10, oeq_10, haq_10, hlq_10⟩ := ((h1.mono At_ShareGroupDescribeResponseGroup.mono le_4)).rows.at_ (ne_nil_of_lt hk1)
   obtain ⟨ceq_10, hAq_10, hbq_10⟩ := hlq_10 k1 hk1
   refine dT 10 rfl rfl rfl (by kernel_rfl) (fun _ _ _ h => h) (y_ixk (j := k1) Tryz.runUnderlying186 Tryz.sizeOf193 rfl haq_10 rfl rfl hk1) (.skip (.keep (.keep (.keep .nil)))) (Fz.le.refl _) ?_
   refine dT 12 rfl rfl rfl (by kernel_rfl) (fun _ _ _ h => h) (y_ls Tryz.runUnderlying34 rfl) (.skip (.keep (.keep (.keep .nil)))) (Fz.le.refl _) ?_
   refine dE2 11 13 (by kernel_rfl) rfl rfl ?_ ?_
   ·
    refine cl rfl rfl rfl (te_ShareGroupDescribeResponseGroup hbq_10 (At_ShareGroupDescribeResponseGroup.mono _ _ _ _ (Fz.le.refl _) hAq_10) ((hf.at 1).lTel (List.getElem_mem hk1))) rfl (fun v_ H1 L1 le_11 hR_ => ?_)
    obtain ⟨rfl, ct46, rfl, hT46⟩ := hR_
    refine dN (.skip (.keep (.keep (.keep .nil)))) le_11 ?_
    refine dE 13 (by kernel_rfl) rfl ?_
    refine bs' L34 rfl rfl rfl rfl (fun b_12 => ?_)
    refine dN (.skip (.skip (.keep (.keep (.keep .nil))))) le_11 ?_
    refine dE 14 (by kernel_rfl) rfl ?_
    have hmk : ml1 = k1 := by have h1 := congrArg List.length pk12; rw [List.length_map, List.length_map, List.length_take] at h1; omega
    have hmb := (hf.at 1).lTl
    refine ap (k := 1) (news := f5 ((TC.none, Tr.none) : EE)) Tryz.underlying34 I37 rfl rfl pk10 (fun _ => (.tail .head)) (src_says Tryz.underlying34 rfl (fun _ => Says.own .head) (f5_one _)) (by omega) (by unfold maxLen; omega) rfl (fun a49 c49 N49 r49 z49 => ?_)
    refine dN (.skip (.skip (.keep (.keep (.keep .nil))))) le_11 ?_
    refine dE 15 (by kernel_rfl) rfl ?_
    refine ixk (j := 1) Tryz.runUnderlying34 Tryz.sizeOf37 rfl rfl rfl rfl (by decide) rfl ?_
    refine dN (.skip (.skip (.keep (.keep (.keep .nil))))) le_11 ?_
    refine dT 16 rfl rfl rfl (by kernel_rfl) (fun _ _ _ h => h) (y_fa F37_3 rfl) (.skip (.skip (.keep (.keep (.keep .nil))))) le_11 ?_
    refine dE 17 (by kernel_rfl) rfl ?_
    refine st Tryz.sizeOf34 rfl rfl rfl rfl (.tail (.tail (.tail .head))) ?_
    refine dNk (by kernel_rfl) ?_
    refine dD (by kernel_rfl) ?_
    refine Nt ?_
    refine rg ?_
    obtain ⟨gg49, hgg49⟩ := r49.addr (by omega)
    refine ixk (j := ml1) Tryz.runUnderlying34 Tryz.sizeOf37 rfl hgg49 rfl rfl (by omega) rfl ?_
    refine sR (ds := f5 ((ct46, tl_ShareGroupDescribeResponseGroup (lT (T.at 1))[k1]) : EE)) r49 hgg49 (fun _ => (.tail .head)) Tryz.sizeOf37 rfl rfl rfl rfl (by omega) (fun N49b r49b => ?_)
    rw [row_put (k := 5) (m := ml1) (A := es1.flatMap f5) (by rw [flatMap_len f5 5 f5_len, pk11]) rfl, flatMap_snoc'] at r49b
    refine nN ?_
    refine Nb ?_
    refine drN .head ?_
    refine fun a_ w_ hA hw => ⟨_, _, _, hA.sub ?_, (le_4.trans le_11), hw, _, rfl, a49, (ml1 + 1), c49, (es1 ++ [((ct46, tl_ShareGroupDescribeResponseGroup (lT (T.at 1))[k1]) : EE)]), N49b, rfl, rfl, r49b, (by simp; omega), (map_take_snoc (g := tl_ShareGroupDescribeResponseGroup) hk1 pk12), (fun p hp => (mem_snoc hp).elim (fun h => (pk13 p h).mono le_11) (fun h => h ▸ hT46))⟩
    exact (.cons rfl (.cons rfl (.cons rfl (.cons rfl (.cons rfl (.nil _))))))
   ·
    refine bs' L34 rfl rfl rfl rfl (fun b_13 => ?_)
    refine dN (.skip (.skip (.keep (.keep (.keep .nil))))) (Fz.le.refl _) ?_
    refine dE 11 (by kernel_rfl) rfl ?_
    refine cl rfl rfl rfl (te_ShareGroupDescribeResponseGroup hbq_10 (At_ShareGroupDescribeResponseGroup.mono _ _ _ _ (Fz.le.refl _) hAq_10) ((hf.at 1).lTel (List.getElem_mem hk1))) rfl (fun v_ H1 L1 le_14 hR_ => ?_)
    obtain ⟨rfl, ct46, rfl, hT46⟩ := hR_
    refine dN (.skip (.skip (.keep (.keep (.keep .nil))))) le_14 ?_
    refine dE 14 (by kernel_rfl) rfl ?_
    have hmk : ml1 = k1 := by have h1 := congrArg List.length pk12; rw [List.length_map, List.length_map, List.length_take] at h1; omega
    have hmb := (hf.at 1).lTl
    refine ap (k := 1) (news := f5 ((TC.none, Tr.none) : EE)) Tryz.underlying34 I37 rfl rfl pk10 (fun _ => (.tail .head)) (src_says Tryz.underlying34 rfl (fun _ => Says.own .head) (f5_one _)) (by omega) (by unfold maxLen; omega) rfl (fun a49 c49 N49 r49 z49 => ?_)
    refine dN (.skip (.skip (.keep (.keep (.keep .nil))))) le_14 ?_
    refine dE 15 (by kernel_rfl) rfl ?_
    refine ixk (j := 1) Tryz.runUnderlying34 Tryz.sizeOf37 rfl rfl rfl rfl (by decide) rfl ?_
    refine dN (.skip (.skip (.keep (.keep (.keep .nil))))) le_14 ?_
    refine dT 16 rfl rfl rfl (by kernel_rfl) (fun _ _ _ h => h) (y_fa F37_3 rfl) (.skip (.skip (.keep (.keep (.keep .nil))))) le_14 ?_
    refine dE 17 (by kernel_rfl) rfl ?_
    refine st Tryz.sizeOf34 rfl rfl rfl rfl (.tail (.tail (.tail .head))) ?_
    refine dNk (by kernel_rfl) ?_
    refine dD (by kernel_rfl) ?_
    refine Nt ?_
    refine rg ?_
    obtain ⟨gg49, hgg49⟩ := r49.addr (by omega)
    refine ixk (j := ml1) Tryz.runUnderlying34 Tryz.sizeOf37 rfl hgg49 rfl rfl (by omega) rfl ?_
    refine sR (ds := f5 ((ct46, tl_ShareGroupDescribeResponseGroup (lT (T.at 1))[k1]) : EE)) r49 hgg49 (fun _ => (.tail .head)) Tryz.sizeOf37 rfl rfl rfl rfl (by omega) (fun N49b r49b => ?_)
    rw [row_put (k := 5) (m := ml1) (A := es1.flatMap f5) (by rw [flatMap_len f5 5 f5_len, pk11]) rfl, flatMap_snoc'] at r49b
    refine nN ?_
    refine Nb ?_
    refine drN .head ?_
    refine fun a_ w_ hA hw => ⟨_, _, _, hA.sub ?_, (le_4.trans le_14), hw, _, rfl, a49, (ml1 + 1), c49, (es1 ++ [((ct46, tl_ShareGroupDescribeResponseGroup (lT (T.at 1))[k1]) : EE)]), N49b, rfl, rfl, r49b, (by simp; omega), (map_take_snoc (g := tl_ShareGroupDescribeResponseGroup) hk1 pk12), (fun p hp => (mem_snoc hp).elim (fun h => (pk13 p h).mono le_14) (fun h => h ▸ hT46))⟩
    exact (.cons rfl (.cons rfl (.cons rfl (.cons rfl (.cons rfl (.nil _))))))
 ·
  obtain ⟨al1, ml1, cl1, es1, Nl1, rfl, rfl, pk10, pk11, pk12, pk13⟩ := hI
  refine toWp ?_
  have hes1 : es1.map (·.2) = (lT (T.at 1)).map tl_ShareGroupDescribeResponseGroup := by rw [pk12, List.take_length]
  have hm1 : ml1 = ((lT (T.at 1)).map tl_ShareGroupDescribeResponseGroup).length := by rw [← hes1, List.length_map]; exact pk11
  refine frW pk10 .head (fun Hl1 hll1 hzl1 => ?_)
  have ht1 := TreesAt.row hzl1 pk11 pk10.le.1 (by have h1 := congrArg List.length hes1; rw [List.length_map, List.length_map] at h1; unfold B47; omega) (fun p hp => (pk13 p hp).mono hll1)
  rw [hes1] at ht1
  subst hm1
  refine sr ?_
  refine mv rfl rfl ?_
  refine nc rfl rfl ?_
  refine fa F188_3 rfl rfl ?_
  refine mkf rfl rfl ?_
  have hkv_ := (h2.mono (le_5.trans hll1))
  obtain ⟨kvs, hM, hlen, hel⟩ := hkv_
  have hfu := hf.u
  refine cl rfl rfl rfl (t_each (j := 3) (I := fun i H1 Y => TgI 72 b_3 37 (.int .i64 0) (.slice none 0 0) (.bool false) (_) T.u i H1 Y) (hb.mono (le_5.trans hll1)) rfl hM (by omega) (fun i H1 H2 Y hle h => h.mono hle) TgI.start (fun i k v H1 Y L1 hi hle hI => ?_)) rfl (fun v_ H1 L1 le_16 hR_ => ?_)
  ·
   obtain ⟨s, h1, ⟨va, vc, rfl, hx⟩, h2, h3⟩ := hel i k v hi
   have hik := sortKv_lt hi
   exact TgI.step (fun {_ _ _ _ _ _ _ _ _ _ _ _ _ _ _ _} => tc_184) hf.v (by omega) h1 (hx.mono hle) h2 h3 hI
  rw [hlen] at hR_
  obtain ⟨_, rfl, aU, cU, NU, esU, rfl, hrU, heU, hgU⟩ := hR_
  refine splL ?_
  rw [List.take_length] at heU
  refine frL hrU (.tail .head) (fun HU hleU hzU => ?_)
  have hU := (TagsAt.told hzU hrU heU hfu (fun p hp => (hgU p hp).mono hleU)).1
  refine nl ?_
  refine sr ?_
  refine fa0 F37_4 rfl rfl ?_
  refine ld (Says.own .head) Tryz.isAgg35 rfl (Nat.zero_add _).symm rfl rfl ?_
  refine cl rfl rfl rfl (k_sorted hU (h2.mono (le_5.trans (hll1.trans (le_16.trans hleU)))).rise) rfl (fun v_ H1 L1 hle_ hR_ => ?_)
  obtain ⟨rfl, rfl⟩ := hR_
  refine nl ?_
  refine sr ?_
  refine la (Says.own .head) Tryz.isAgg37 Tryz.sizeOf37 rfl (Nat.zero_add _).symm rfl rfl ?_
  refine sa Tryz.sizeOf37 rfl rfl rfl rfl rfl (.tail (.tail .head)) ?_
  refine nl ?_
  refine drW .head ?_
  refine frW (Row.whole (e := 37) (size := 5) (m := 2) (ds := [.int .i64 (IntKind.i32.wrap (T.at 0).n), .slice none 0 0, .bool false, .slice none 0 0, .slice none 0 0, .int .i64 0, .slice none 0 0, .bool a1.isNone, .slice al1 ((lT (T.at 1)).map tl_ShareGroupDescribeResponseGroup).length cl1, .slice none 0 0]) rfl (by unfold maxLen; omega)) .head (fun H9 hle9 hz9 => ?_)
  have hrb : H9.at b_2 0 [.int .i64 (IntKind.i32.wrap (T.at 0).n), .slice none 0 0, .bool false, .slice none 0 0, .slice none 0 0, .int .i64 0, .slice none 0 0, .bool a1.isNone, .slice al1 ((lT (T.at 1)).map tl_ShareGroupDescribeResponseGroup).length cl1, .slice none 0 0] := by
   rcases hz9 with ⟨h, _⟩ | ⟨g, h, h2⟩
   · cases h
   · cases h; exact h2
  rw [(h1).nul] at hrb
  have hrb2 : H9.at b_2 0 (([((TC.none : TC), (Tr.mk (IntKind.i32.wrap (T.at 0).n) [] false [] [] : Tr)), ((⟨none, 0, al1, cl1, none, 0⟩ : TC), (Tr.mk 0 [] (T.at 1).nul ((lT (T.at 1)).map tl_ShareGroupDescribeResponseGroup) [] : Tr))] : List EE).flatMap fun p => p.1.cells p.2) := by exact hrb
  have hl9 : TreesAt H9 (some ⟨b_2, 0, none⟩) 2 [(.mk (IntKind.i32.wrap (T.at 0).n) [] false [] []), (.mk 0 [] (T.at 1).nul ((lT (T.at 1)).map tl_ShareGroupDescribeResponseGroup) [])] := by
   refine TreesAt.row (es := [((TC.none : TC), (Tr.mk (IntKind.i32.wrap (T.at 0).n) [] false [] [] : Tr)), ((⟨none, 0, al1, cl1, none, 0⟩ : TC), (Tr.mk 0 [] (T.at 1).nul ((lT (T.at 1)).map tl_ShareGroupDescribeResponseGroup) [] : Tr))]) (.inr ⟨_, rfl, hrb2⟩) rfl (Nat.le_refl _) (Nat.le_of_ble_eq_true rfl) ?_
   intro p hp
   simp only [List.mem_cons, List.not_mem_nil, or_false] at hp
   rcases hp with rfl | rfl
   · exact (.of (.nil _) (.nil _) (.nil _))
   · exact (.of (.nil _) (ht1.mono (le_16.trans (hleU.trans hle9))) (.nil _))
  exact rC rfl Tryz.isAgg37 Tryz.sizeOf37 rfl .head rfl (le_5.trans (hll1.trans (le_16.trans (hleU.trans hle9)))) (fun _ _ h => h) ⟨rfl, ⟨none, 0, some ⟨b_2, 0, none⟩, 2, aU, cU⟩, rfl, .of (.nil _) hl9 (hU.mono hle9)⟩
end Go.Sx

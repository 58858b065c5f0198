import Derived.Test.YthegbjcccjpbcaaGreatDoorS1
import Derived.Test.YthegbjcccjpbcaaGreatDoorLibD
import Derived.Test.YthegbjcccjpbcaaGreatDoorMkL
import Derived.KernelRfl
set_option linter.unusedVariables false
set_option linter.unusedSimpArgs false
set_option maxRecDepth 100000
set_option maxHeartbeats 20000000
namespace Go.Sx
open Go.Proofs
theorem tr_size {t : Tr} {k : Nat} (hk : k < t.l.length) : SizeOf.sizeOf t.l[k] < SizeOf.sizeOf t := by
 have h1 := List.sizeOf_lt_of_mem (List.getElem_mem hk)
 have h2 : SizeOf.sizeOf t.l < SizeOf.sizeOf t := by cases t; simp [Tr.l]; omega
 omega
theorem s_got (t : Tr) : ∀ {H : Fz} {L : Own} {c : TC} (hT : TreeAt H c t), Fn Tryz.prog 12 [.agg (c.cells t).toArray] H L (fun r H' L' => L = L' ∧ ∃ c', r = .agg (TC.cells c' t).toArray ∧ TreeAt H' c' t) := by
 induction hsz : SizeOf.sizeOf t using Nat.strongRecOn generalizing t with
 | _ sz ih0 =>
 have ih : ∀ x, SizeOf.sizeOf x < SizeOf.sizeOf t → ∀ {H : Fz} {L : Own} {c : TC} (hT : TreeAt H c x), Fn Tryz.prog 12 [.agg (c.cells x).toArray] H L (fun r H' L' => L = L' ∧ ∃ c', r = .agg (TC.cells c' x).toArray ∧ TreeAt H' c' x) := fun x hx => ih0 _ (by omega) x rfl
 intro H L c hT
 refine Fn.mk Tryz.call12 Tryz.func12 rfl Tryz.ntmps12 rfl ?_
 refine sr ?_
 refine bx rfl rfl rfl (fun b_1 => ?_)
 refine al Tryz.zeroValue26 rfl rfl (fun b_2 => ?_)
 refine nl ?_
 refine sr ?_
 refine fa0 F37_0 rfl rfl ?_
 refine ld (Says.own (.tail .head)) Tryz.isAgg2 rfl (Nat.zero_add _).symm rfl rfl ?_
 refine fa0 F37_1 rfl rfl ?_
 refine ld (Says.own (.tail .head)) Tryz.isAgg22 rfl (Nat.zero_add _).symm rfl rfl ?_
 refine fa0 F37_2 rfl rfl ?_
 refine ld (Says.own (.tail .head)) Tryz.isAgg4 rfl (Nat.zero_add _).symm rfl rfl ?_
 refine bd' S26 rfl rfl rfl ?_
 refine al Tryz.zeroValue26 rfl rfl (fun b_3 => ?_)
 refine sa Tryz.sizeOf26 rfl rfl rfl rfl rfl .head ?_
 refine nl ?_
 refine sq ?_
 refine sr ?_
 refine fa0 F37_3 rfl rfl ?_
 refine ld (Says.own (.tail (.tail .head))) Tryz.isAgg34 rfl (Nat.zero_add _).symm rfl rfl ?_
 refine ls Tryz.runUnderlying34 rfl rfl ?_
 refine mv rfl rfl ?_
 refine nl ?_
 refine nilC ?_
 refine capF2 (N := []) (M := _) (fun _ => .head) (fun _ _ => (.tail .head)) (fun F_6 hF_6 => ?_)
 refine fr (t.l.length) (fun k l' H' L' => ∃ N : Chunk, ∃ X0_k : Chunk, ∃ lA m lC es, [(1, .pointer (some ⟨b_1, 0, none⟩)), (2, .pointer (some ⟨b_2, 0, none⟩)), (3, .pointer (some ⟨b_3, 0, none⟩)), (16, .slice c.la t.l.length c.lc), (17, .int .i64 (t.l.length : Int))] = l' ∧ F_6 N X0_k = L' ∧ X0_k = [(b_3, .cells [.int .i64 t.n, .slice c.sa t.s.length c.sc, .bool t.nul, .slice lA m lC, .slice none 0 0].toArray 26 (0, 0))] ∧ Row 26 5 lA m lC ((es : List EE).flatMap f5) N ∧ m = es.length ∧ (∀ p : EE, p ∈ es → TreeAt H' p.1 p.2) ∧ es.map (·.2) = (t.l.take k).map id) [(1, .pointer (some ⟨b_1, 0, none⟩)), (2, .pointer (some ⟨b_2, 0, none⟩)), (3, .pointer (some ⟨b_3, 0, none⟩)), (16, .slice c.la t.l.length c.lc), (17, .int .i64 (t.l.length : Int))] (fun k l' H' L' h => ?_) (by have := hT.l.len; omega) rfl (.of ⟨rfl, rfl, rfl, rfl, rfl, trivial⟩) ⟨[], _, none, 0, 0, [], rfl, rfl, rfl, (Row.nil _ _), rfl, (fun p hp => by cases hp), (by simp)⟩ rfl rfl rfl rfl rfl (fun k l' H' L' hk le_4 hI => ?_) (fun l' H' L' le_5 hI => ?_)
 · obtain ⟨N, X0_k, lA, m, lC, es, rfl, _⟩ := h; exact ⟨rfl, rfl, rfl, rfl⟩
 ·
  obtain ⟨N, X0_k, lA, m, lC, es, rfl, rfl, rfl, pk0, pk1, pk2, pk3⟩ := hI
  rw [hF_6]
  refine sr ?_
  obtain ⟨b_7, o_8, e_9, g_10⟩ := (hT.l.mono le_4).at_ (ne_nil_of_lt hk)
  obtain ⟨c_11, q_12, q_13⟩ := g_10 k hk
  refine ix2 Tryz.runUnderlying34 Tryz.sizeOf37 rfl e_9 rfl rfl hk rfl ?_
  refine la (Says.fz q_12) Tryz.isAgg37 Tryz.sizeOf37 rfl (Nat.add_zero _).symm rfl rfl ?_
  refine al Tryz.zeroValue37 rfl rfl (fun b_14 => ?_)
  refine sa Tryz.sizeOf37 rfl rfl rfl rfl rfl .head ?_
  refine nl ?_
  refine rgD 7 (.keep (.skip (.keep (.keep (.keep .nil))))) mixed ?_
  refine dU 0 rfl rfl rfl (y_fa0 F26_3 rfl) (.keep (.skip (.keep (.keep (.keep .nil))))) ler ?_
  refine dU 1 rfl rfl rfl (y_ld (Says.own (.tail .head)) Tryz.isAgg23 rfl (Nat.zero_add _).symm rfl) (.keep (.skip (.keep (.keep (.keep .nil))))) ler ?_
  refine dU 2 rfl rfl rfl (y_la (Says.own .head) Tryz.isAgg37 Tryz.sizeOf37 rfl (Nat.zero_add _).symm rfl) (.keep (.skip (.keep (.keep (.keep .nil))))) ler ?_
  refine dE 3 (by kernel_rfl) rfl ?_
  refine cl rfl rfl rfl (ih _ (tr_size hk) q_13) rfl (fun v H1 L1 le_15 hR => ?_)
  obtain ⟨rfl, c25, rfl, g25⟩ := hR
  refine dN (.keep (.skip (.keep (.keep (.keep .nil))))) le_15 ?_
  refine dE 4 (by kernel_rfl) rfl ?_
  refine bs' L23 rfl rfl rfl rfl (fun b_16 => ?_)
  refine dN (.skip (.keep (.skip (.keep (.keep (.keep .nil)))))) le_15 ?_
  refine dE 5 (by kernel_rfl) rfl ?_
  have hmk : m = k := by have h1 := congrArg List.length pk3; rw [List.length_map, List.length_map, List.length_take] at h1; omega
  have hbig := hT.l.big; unfold B47 at hbig
  refine ap (news := f5 (c25, id t.l[k])) Tryz.underlying23 I26 rfl rfl pk0 (fun _ => (.tail (.tail .head))) (src_says Tryz.underlying23 rfl (fun _ => Says.own .head) (f5_one _)) (by omega) (by unfold maxLen; omega) rfl (fun a27 c27 N27 r27 z27 => ?_)
  rw [flatMap_snoc'] at r27
  refine dN (.skip (.keep (.skip (.keep (.keep (.keep .nil)))))) le_15 ?_
  refine dU 6 rfl rfl rfl (y_fa0 F26_3 rfl) (.skip (.keep (.skip (.keep (.keep (.keep .nil)))))) le_15 ?_
  refine dE 7 (by kernel_rfl) rfl ?_
  refine st Tryz.sizeOf23 rfl rfl rfl rfl (.tail (.tail (.tail .head))) ?_
  refine dNk (by kernel_rfl) ?_
  refine dD (by kernel_rfl) ?_
  refine Nb ?_
  refine drN .head ?_
  refine drN .head ?_
  refine fun a w hA hw => ⟨_, _, _, hA.sub ?_, (le_4.trans le_15), hw, _, rfl, N27, _, a27, _, c27, (es ++ [(c25, id t.l[k])]), rfl, hF_6 _ _, rfl, r27, (by simp; omega), (fun p hp => (mem_snoc hp).elim (fun h => (pk2 p h).mono le_15) (fun h => h ▸ g25)), (map_take_snoc hk pk3)⟩
  exact (.of ⟨rfl, rfl, rfl, rfl, rfl, rfl, trivial⟩)
 ·
  obtain ⟨N, X0_k, lA, m, lC, es, rfl, rfl, rfl, pk0, pk1, pk2, pk3⟩ := hI
  rw [hF_6]
  refine toWp ?_
  have hm : m = t.l.length := by have h1 := congrArg List.length pk3; rw [List.length_map, List.length_map, List.take_length] at h1; omega
  have hfe : es.map (·.2) = t.l := by rw [pk3, List.take_length, List.map_id]
  have hbig := hT.l.big
  refine frW pk0 .head (fun H2 hle2 hfz => ?_)
  have hlt := TreesAt.row hfz pk1 pk0.le.1 (by omega) (fun p hp => (pk2 p hp).mono hle2)
  rw [hfe] at hlt
  refine sq ?_
  refine sr ?_
  refine fa0 F37_4 rfl rfl ?_
  refine ld (Says.own (.tail (.tail .head))) Tryz.isAgg35 rfl (Nat.zero_add _).symm rfl rfl ?_
  refine ls Tryz.runUnderlying35 rfl rfl ?_
  refine mv rfl rfl ?_
  refine nl ?_
  refine nilC ?_
  refine capF2 (N := []) (M := _) (fun _ => .head) (fun _ _ => (.tail .head)) (fun F_19 hF_19 => ?_)
  refine fr (t.u.length) (fun j l' H' L' => ∃ N : Chunk, ∃ X0_j : Chunk, ∃ ua m2 uc es2, [(2, .pointer (some ⟨b_2, 0, none⟩)), (3, .pointer (some ⟨b_3, 0, none⟩)), (31, .slice c.ua t.u.length c.uc), (32, .int .i64 (t.u.length : Int))] = l' ∧ F_19 N X0_j = L' ∧ X0_j = [(b_3, .cells [.int .i64 t.n, .slice c.sa t.s.length c.sc, .bool t.nul, .slice lA m lC, .slice ua m2 uc].toArray 26 (0, 0))] ∧ Row 66 2 ua m2 uc ((es2 : List TE).flatMap f2) N ∧ m2 = es2.length ∧ (∀ p : TE, p ∈ es2 → TagAt H' p.1 p.2) ∧ es2.map (·.2) = (t.u.take j).map id) [(2, .pointer (some ⟨b_2, 0, none⟩)), (3, .pointer (some ⟨b_3, 0, none⟩)), (31, .slice c.ua t.u.length c.uc), (32, .int .i64 (t.u.length : Int))] (fun j l' H' L' h => ?_) (by have := hT.u.len; omega) rfl (.of ⟨rfl, rfl, rfl, rfl, trivial⟩) ⟨[], _, none, 0, 0, [], rfl, rfl, rfl, (Row.nil _ _), rfl, (fun p hp => by cases hp), (by simp)⟩ rfl rfl rfl rfl rfl (fun j l' H' L' hj le_17 hI => ?_) (fun l' H' L' le_18 hI => ?_)
  · obtain ⟨N, X0_j, ua, m2, uc, es2, rfl, _⟩ := h; exact ⟨rfl, rfl, rfl, rfl⟩
  ·
   obtain ⟨N, X0_j, ua, m2, uc, es2, rfl, rfl, rfl, pj0, pj1, pj2, pj3⟩ := hI
   rw [hF_19]
   refine sr ?_
   obtain ⟨b_20, o_21, e_22, g_23⟩ := (hT.u.mono (le_5.trans (hle2.trans le_17))).at_ (ne_nil_of_lt hj)
   obtain ⟨c_24, q_25, q_26⟩ := g_23 j hj
   refine ix2 Tryz.runUnderlying35 Tryz.sizeOf69 rfl e_22 rfl rfl hj rfl ?_
   refine la (Says.fz q_25) Tryz.isAgg69 Tryz.sizeOf69 rfl (Nat.add_zero _).symm rfl rfl ?_
   have hwt := q_26
   refine al Tryz.zeroValue69 rfl rfl (fun b_27 => ?_)
   refine sa Tryz.sizeOf69 rfl rfl rfl rfl rfl .head ?_
   refine nl ?_
   refine rg ?_
   refine fa0 F26_4 rfl rfl ?_
   refine ld (Says.own (.tail (.tail .head))) Tryz.isAgg24 rfl (Nat.zero_add _).symm rfl rfl ?_
   refine fa0 F69_0 rfl rfl ?_
   refine ld (Says.own .head) Tryz.isAgg64 rfl (Nat.zero_add _).symm rfl rfl ?_
   refine fa0 F69_1 rfl rfl ?_
   refine ld (Says.own .head) Tryz.isAgg22 rfl (Nat.zero_add _).symm rfl rfl ?_
   refine bd' S66 rfl rfl rfl ?_
   refine bs' L24 rfl rfl rfl rfl (fun b_28 => ?_)
   have hmk : m2 = j := by have h1 := congrArg List.length pj3; rw [List.length_map, List.length_map, List.length_take] at h1; omega
   have hbig := hT.u.big; unfold B47 at hbig
   refine ap (news := f2 (c_24, id t.u[j])) Tryz.underlying24 I66 rfl rfl pj0 (fun _ => (.tail (.tail .head))) (src_says Tryz.underlying24 rfl (fun _ => Says.own .head) (f2_one _)) (by omega) (by unfold maxLen; omega) rfl (fun a45 c45 N45 r45 z45 => ?_)
   rw [flatMap_snoc'] at r45
   refine fa0 F26_4 rfl rfl ?_
   refine st Tryz.sizeOf24 rfl rfl rfl rfl (.tail (.tail (.tail .head))) ?_
   refine nN ?_
   refine Nb ?_
   refine drN .head ?_
   refine drN .head ?_
   refine fun a w hA hw => ⟨_, _, _, hA.sub ?_, le_17, hw, _, rfl, N45, _, a45, _, c45, (es2 ++ [(c_24, id t.u[j])]), rfl, hF_19 _ _, rfl, r45, (by simp; omega), (fun p hp => (mem_snoc hp).elim (fun h => pj2 p h) (fun h => h ▸ hwt)), (map_take_snoc hj pj3)⟩
   exact (.of ⟨rfl, rfl, rfl, rfl, rfl, trivial⟩)
  ·
   obtain ⟨N, X0_j, ua, m2, uc, es2, rfl, rfl, rfl, pj0, pj1, pj2, pj3⟩ := hI
   rw [hF_19]
   refine toWp ?_
   have hm2 : m2 = t.u.length := by have h1 := congrArg List.length pj3; rw [List.length_map, List.length_map, List.take_length] at h1; omega
   have hfe2 : es2.map (·.2) = t.u := by rw [pj3, List.take_length, List.map_id]
   have hbig2 := hT.u.big
   refine frW pj0 .head (fun H3 hle3 hfz3 => ?_)
   have hut := TagsAt.row hfz3 pj1 pj0.le.1 (by omega) (fun p hp => (pj2 p hp).mono hle3)
   rw [hfe2] at hut
   refine sr ?_
   refine la (Says.own .head) Tryz.isAgg26 Tryz.sizeOf26 rfl (Nat.zero_add _).symm rfl rfl ?_
   refine sa Tryz.sizeOf26 rfl rfl rfl rfl rfl (.tail .head) ?_
   refine nl ?_
   refine drW .head ?_
   refine drW (.tail .head) ?_
   exact rC rfl Tryz.isAgg26 Tryz.sizeOf26 rfl .head rfl (le_5.trans (hle2.trans (le_18.trans hle3))) (fun _ _ h => h) ⟨rfl, ⟨c.sa, c.sc, lA, lC, ua, uc⟩, by rw [hm, hm2]; rfl, TreeAt.of (hT.s.mono (le_5.trans (hle2.trans (le_18.trans hle3)))) (hlt.mono (le_18.trans hle3)) hut⟩
end Go.Sx

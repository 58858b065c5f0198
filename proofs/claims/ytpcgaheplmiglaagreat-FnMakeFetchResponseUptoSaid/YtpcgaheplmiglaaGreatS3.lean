import Derived.Test.YtpcgaheplmiglaaGreatS2
import Derived.Test.YtpcgaheplmiglaaGreatLibD
import Derived.KernelRfl
set_option linter.unusedVariables false
set_option linter.unusedSimpArgs false
set_option maxRecDepth 100000
set_option maxHeartbeats 20000000
namespace Go.Sx
open Go.Proofs
theorem s_write {H : Fz} {L : Own} {a : Option Addr} {c0 : Nat} {c : TC} {m : Msg} {ver : Int} {t : Tr} (hF : FdsAt H a m.fields) (hT : TreeAt H c t) (hb : (m.write ver t).length ≤ B46) :
  Fn Tryz.prog 12 [.agg #[.slice a m.fields.length c0, .int .i64 m.flex], .int .i64 ver, .agg (c.cells t).toArray] H L (fun v H' L' => OutB 5 L (m.write ver t) v L') := by
 refine Fn.mk Tryz.call12 Tryz.func12 rfl Tryz.ntmps12 rfl ?_
 refine sr ?_
 refine bx rfl rfl rfl (fun b_1 => ?_)
 refine bx rfl rfl rfl (fun b_2 => ?_)
 refine asg rfl rfl ?_
 refine nl ?_
 refine sr ?_
 refine fa0 F31_0 rfl rfl ?_
 refine ld (Says.own (.tail .head)) Tryz.isAgg29 rfl (Nat.zero_add _).symm rfl rfl ?_
 refine mv rfl rfl ?_
 refine fa0 F31_1 rfl rfl ?_
 refine ld (Says.own (.tail .head)) Tryz.isAgg3 rfl (Nat.zero_add _).symm rfl rfl ?_
 refine ge rfl rfl rfl ?_
 refine mv rfl rfl ?_
 refine spl (t := 13) rfl (fun h13 => ?_) (fun h13 => ?_)
 ·
  refine gr rfl rfl ?_
  refine mv rfl rfl ?_
  refine gr rfl rfl ?_
  refine fa0 F31_1 rfl rfl ?_
  refine gr rfl rfl ?_
  refine ld (Says.own (.tail .head)) Tryz.isAgg3 rfl (Nat.zero_add _).symm rfl rfl ?_
  refine gr rfl rfl ?_
  refine ge rfl rfl rfl ?_
  refine pk rfl rfl rfl rfl ?_
  refine la (Says.own .head) Tryz.isAgg26 Tryz.sizeOf26 rfl (Nat.zero_add _).symm rfl rfl ?_
  have ef : m.flexible ver = decide (m.flex ≤ ver) := by unfold Msg.flexible; simp [h13]
  have hb2 : (partB m.fields ver (decide (m.flex ≤ ver)) t).length ≤ B46 := by rw [← ef]; exact hb
  refine cl rfl rfl rfl (s_part _ _ _ hF hT hb2) rfl (fun v H1 L1 le_3 hR => ?_)
  obtain ⟨a20, c20, N20, rfl, rfl, h20⟩ := hR
  refine asg rfl rfl ?_
  refine nl ?_
  refine drW (.tail .head) ?_
  refine drW (.tail .head) ?_
  exact rT rfl rfl le_3 (fun _ _ h => h) (OutB.of h20.1 (by unfold Msg.write; rw [ef]))
 ·
  refine gs rfl rfl rfl rfl ?_
  refine gs rfl rfl rfl rfl ?_
  refine gs rfl rfl rfl rfl ?_
  refine gs rfl rfl rfl rfl ?_
  refine pk rfl rfl rfl rfl ?_
  refine la (Says.own .head) Tryz.isAgg26 Tryz.sizeOf26 rfl (Nat.zero_add _).symm rfl rfl ?_
  have ef : m.flexible ver = false := by unfold Msg.flexible; simp [h13]
  have hb2 : (partB m.fields ver (false) t).length ≤ B46 := by rw [← ef]; exact hb
  refine cl rfl rfl rfl (s_part _ _ _ hF hT hb2) rfl (fun v H1 L1 le_4 hR => ?_)
  obtain ⟨a20, c20, N20, rfl, rfl, h20⟩ := hR
  refine asg rfl rfl ?_
  refine nl ?_
  refine drW (.tail .head) ?_
  refine drW (.tail .head) ?_
  exact rT rfl rfl le_4 (fun _ _ h => h) (OutB.of h20.1 (by unfold Msg.write; rw [ef]))
def FitC (fs : List Fd) (v : Int) : Prop := ∀ {H : Fz} {L : Own} {a : Option Addr} {c0 : Nat} {c : TC} {t : Tr} (_ : FdsAt H a fs) (_ : TreeAt H c t),
  Fn Tryz.prog 11 [.slice a fs.length c0, .int .i64 v, .agg (c.cells t).toArray] H L (fun r H' L' => L = L' ∧ ∃ c', r = .agg (TC.cells c' (fit fs v t)).toArray ∧ TreeAt H' c' (fit fs v t))
theorem wholeTag_at {H : Fz} {g : GC} {x : Int × List UInt8} (h : TagAt H g x) : TagAt H g (wholeTag x) := ⟨h.val.take most, h.lo, h.hi⟩
def FittedC (f : Fd) (v : Int) : Prop := ∀ {H : Fz} {L : Own} {c : FC} {e : TC} {t : Tr} (_ : FdAt H c f) (_ : TreeAt H e t), Fn Tryz.prog 21 [.agg (c.cells f).toArray, .int .i64 v, .agg (e.cells t).toArray] H L (fun r H' L' => L = L' ∧ ∃ c', r = .agg (TC.cells c' (fitF f v t)).toArray ∧ TreeAt H' c' (fitF f v t))
theorem s_fit0 {fs : List Fd} {v : Int} (hP : ∀ f ∈ fs, FittedC f v) : FitC fs v := by
 intro H L a c0 c t hF hT
 refine Fn.mk Tryz.call11 Tryz.func11 rfl Tryz.ntmps11 rfl ?_
 refine sr ?_
 refine bx rfl rfl rfl (fun b_1 => ?_)
 refine al Tryz.zeroValue26 rfl rfl (fun b_2 => ?_)
 refine nl ?_
 refine sr ?_
 refine bd' S26 rfl rfl rfl ?_
 refine al Tryz.zeroValue26 rfl rfl (fun b_3 => ?_)
 refine sa Tryz.sizeOf26 rfl rfl rfl rfl rfl .head ?_
 refine nl ?_
 refine sq ?_
 refine sr ?_
 refine mv rfl rfl ?_
 refine ls Tryz.runUnderlying29 rfl rfl ?_
 refine mv rfl rfl ?_
 refine nl ?_
 refine nilC ?_
 refine capF2 (N := []) (M := _) (fun _ => .head) (fun _ _ => (.tail .head)) (fun F_6 hF_6 => ?_)
 refine fr (fs.length) (fun k l' H' L' => ∃ N : Chunk, ∃ X0_k : Chunk, ∃ lA m lC es, [(0, .slice a fs.length c0), (1, .int .i64 v), (5, .pointer (some ⟨b_1, 0, none⟩)), (6, .pointer (some ⟨b_2, 0, none⟩)), (7, .pointer (some ⟨b_3, 0, none⟩)), (13, .slice a fs.length c0), (14, .int .i64 (fs.length : Int))] = l' ∧ F_6 N X0_k = L' ∧ X0_k = [(b_3, .cells [.int .i64 0, .slice none 0 0, .bool false, .slice lA m lC, .slice none 0 0].toArray 26 (0, 0))] ∧ Row 26 5 lA m lC ((es : List EE).flatMap f5) N ∧ m = es.length ∧ (∀ p : EE, p ∈ es → TreeAt H' p.1 p.2) ∧ es.map (·.2) = (fitsF fs v 0 t).take k) [(0, .slice a fs.length c0), (1, .int .i64 v), (5, .pointer (some ⟨b_1, 0, none⟩)), (6, .pointer (some ⟨b_2, 0, none⟩)), (7, .pointer (some ⟨b_3, 0, none⟩)), (13, .slice a fs.length c0), (14, .int .i64 (fs.length : Int))] (fun k l' H' L' h => ?_) (by have := hF.few; omega) rfl (.of ⟨rfl, rfl, rfl, rfl, rfl, rfl, rfl, trivial⟩) ⟨[], _, none, 0, 0, [], rfl, rfl, rfl, (Row.nil _ _), rfl, (fun p hp => by cases hp), (by simp)⟩ rfl rfl rfl rfl rfl (fun k l' H' L' hk le_4 hI => ?_) (fun l' H' L' le_5 hI => ?_)
 · obtain ⟨N, X0_k, lA, m, lC, es, rfl, _⟩ := h; exact ⟨rfl, rfl, rfl, rfl⟩
 ·
  obtain ⟨N, X0_k, lA, m, lC, es, rfl, rfl, rfl, pk0, pk1, pk2, pk3⟩ := hI
  rw [hF_6]
  refine sr ?_
  refine mv rfl rfl ?_
  obtain ⟨b_7, o_8, e_9, g_10⟩ := (hF.mono le_4).at_ (ne_nil_of_lt hk)
  obtain ⟨c_11, q_12, q_13⟩ := g_10 k hk
  refine ix2 Tryz.runUnderlying29 Tryz.sizeOf50 rfl e_9 rfl rfl hk rfl ?_
  refine la (Says.fz q_12) Tryz.isAgg50 Tryz.sizeOf50 rfl (Nat.add_zero _).symm rfl rfl ?_
  refine al Tryz.zeroValue50 rfl rfl (fun b_14 => ?_)
  refine asg rfl rfl ?_
  refine sa Tryz.sizeOf50 rfl rfl rfl rfl rfl .head ?_
  refine nl ?_
  refine rgD 11 (.keep (.skip (.keep (.keep (.keep .nil))))) mixed ?_
  refine dU 0 rfl rfl rfl (y_fa0 F26_3 rfl) (.keep (.skip (.keep (.keep (.keep .nil))))) ler ?_
  refine dU 1 rfl rfl rfl (y_ld (Says.own (.tail .head)) Tryz.isAgg23 rfl (Nat.zero_add _).symm rfl) (.keep (.skip (.keep (.keep (.keep .nil))))) ler ?_
  refine dU 2 rfl rfl rfl (y_la (Says.own .head) Tryz.isAgg50 Tryz.sizeOf50 rfl (Nat.zero_add _).symm rfl) (.keep (.skip (.keep (.keep (.keep .nil))))) ler ?_
  refine dU 3 rfl rfl rfl (y_mv rfl) (.keep (.skip (.keep (.keep (.keep .nil))))) ler ?_
  refine dU 4 rfl rfl rfl (y_la (Says.own (.tail (.tail (.tail .head)))) Tryz.isAgg26 Tryz.sizeOf26 rfl (Nat.zero_add _).symm rfl) (.keep (.skip (.keep (.keep (.keep .nil))))) ler ?_
  refine dU 5 rfl rfl rfl (y_mv rfl) (.keep (.skip (.keep (.keep (.keep .nil))))) ler ?_
  refine dE 6 (by kernel_rfl) rfl ?_
  refine cl rfl rfl rfl (s_at (i := k) (hT.mono le_4)) rfl (fun v H1 L1 hle hR => ?_)
  obtain ⟨rfl, rfl, c26, rfl, g26⟩ := hR
  refine dN (.keep (.skip (.keep (.keep (.keep .nil))))) ler ?_
  refine dE 7 (by kernel_rfl) rfl ?_
  refine cl rfl rfl rfl (hP _ (List.getElem_mem hk) q_13 g26) rfl (fun v H1 L1 le_15 hR => ?_)
  obtain ⟨rfl, c27, rfl, g27⟩ := hR
  refine dN (.keep (.skip (.keep (.keep (.keep .nil))))) le_15 ?_
  refine dE 8 (by kernel_rfl) rfl ?_
  refine bs' L23 rfl rfl rfl rfl (fun b_16 => ?_)
  refine dN (.skip (.keep (.skip (.keep (.keep (.keep .nil)))))) le_15 ?_
  refine dE 9 (by kernel_rfl) rfl ?_
  have hmk : m = k := by have h1 := congrArg List.length pk3; rw [List.length_map, List.length_take, fitsF_length] at h1; omega
  have hmf := hF.few
  refine ap (news := f5 (c27, fitF fs[k] v (t.at k))) Tryz.underlying23 I26 rfl rfl pk0 (fun _ => (.tail (.tail .head))) (src_says Tryz.underlying23 rfl (fun _ => Says.own .head) (f5_one _)) (by omega) (by unfold maxLen; omega) rfl (fun a29 c29 N29 r29 z29 => ?_)
  rw [flatMap_snoc'] at r29
  refine dN (.skip (.keep (.skip (.keep (.keep (.keep .nil)))))) le_15 ?_
  refine dU 10 rfl rfl rfl (y_fa0 F26_3 rfl) (.skip (.keep (.skip (.keep (.keep (.keep .nil)))))) le_15 ?_
  refine dE 11 (by kernel_rfl) rfl ?_
  refine st Tryz.sizeOf23 rfl rfl rfl rfl (.tail (.tail (.tail .head))) ?_
  refine dNk (by kernel_rfl) ?_
  refine dD (by kernel_rfl) ?_
  refine Nb ?_
  refine drN .head ?_
  refine drN .head ?_
  refine fun a w hA hw => ⟨_, _, _, hA.sub ?_, (le_4.trans le_15), hw, _, rfl, N29, _, a29, _, c29, (es ++ [(c27, fitF fs[k] v (t.at k))]), rfl, hF_6 _ _, rfl, r29, (by simp; omega), (fun p hp => (mem_snoc hp).elim (fun h => (pk2 p h).mono le_15) (fun h => h ▸ g27)), (fits_snoc hk pk3)⟩
  exact (.of ⟨rfl, rfl, rfl, rfl, rfl, rfl, rfl, rfl, trivial⟩)
 ·
  obtain ⟨N, X0_k, lA, m, lC, es, rfl, rfl, rfl, pk0, pk1, pk2, pk3⟩ := hI
  rw [hF_6]
  refine toWp ?_
  have hm : m = fs.length := by have h1 := congrArg List.length pk3; rw [List.length_map, List.length_take, fitsF_length, Nat.min_self] at h1; omega
  have hfe : es.map (·.2) = fitsF fs v 0 t := by rw [pk3]; exact List.take_of_length_le (by rw [fitsF_length]; exact Nat.le_refl _)
  have hmf := hF.few
  refine frW pk0 .head (fun H2 hle2 hfz => ?_)
  have hlt := TreesAt.row hfz pk1 pk0.le.1 (by unfold B47; omega) (fun p hp => (pk2 p hp).mono hle2)
  rw [hfe] at hlt
  have hll : (fitsF fs v 0 t).length = m := by rw [fitsF_length]; omega
  refine sq ?_
  refine sr ?_
  refine mv rfl rfl ?_
  refine fa0 F26_4 rfl rfl ?_
  refine ld (Says.own (.tail (.tail .head))) Tryz.isAgg24 rfl (Nat.zero_add _).symm rfl rfl ?_
  refine cl rfl rfl rfl (s_unknown (hF.mono (le_5.trans hle2)) (hT.u.mono (le_5.trans hle2))) rfl (fun v H1 L1 le35 hR => ?_)
  obtain ⟨rfl, a35, c35, rfl, g35⟩ := hR
  have hul := unknown_len fs t.u
  refine ls Tryz.runUnderlying24 rfl rfl ?_
  refine mv rfl rfl ?_
  refine nl ?_
  refine nilC ?_
  refine capF2 (N := []) (M := _) (fun _ => .head) (fun _ _ => (.tail .head)) (fun F_19 hF_19 => ?_)
  refine fr ((unknown fs t.u).length) (fun j l' H' L' => ∃ N : Chunk, ∃ X0_j : Chunk, ∃ ua m2 uc es2, [(6, .pointer (some ⟨b_2, 0, none⟩)), (7, .pointer (some ⟨b_3, 0, none⟩)), (35, .slice a35 (unknown fs t.u).length c35), (36, .int .i64 ((unknown fs t.u).length : Int))] = l' ∧ F_19 N X0_j = L' ∧ X0_j = [(b_3, .cells [.int .i64 0, .slice none 0 0, .bool false, .slice lA m lC, .slice ua m2 uc].toArray 26 (0, 0))] ∧ Row 64 2 ua m2 uc ((es2 : List TE).flatMap f2) N ∧ m2 = es2.length ∧ (∀ p : TE, p ∈ es2 → TagAt H' p.1 p.2) ∧ es2.map (·.2) = ((unknown fs t.u).take j).map wholeTag) [(6, .pointer (some ⟨b_2, 0, none⟩)), (7, .pointer (some ⟨b_3, 0, none⟩)), (35, .slice a35 (unknown fs t.u).length c35), (36, .int .i64 ((unknown fs t.u).length : Int))] (fun j l' H' L' h => ?_) (by omega) rfl (.of ⟨rfl, rfl, rfl, rfl, trivial⟩) ⟨[], _, none, 0, 0, [], rfl, rfl, rfl, (Row.nil _ _), rfl, (fun p hp => by cases hp), (by simp)⟩ rfl rfl rfl rfl rfl (fun j l' H' L' hj le_17 hI => ?_) (fun l' H' L' le_18 hI => ?_)
  · obtain ⟨N, X0_j, ua, m2, uc, es2, rfl, _⟩ := h; exact ⟨rfl, rfl, rfl, rfl⟩
  ·
   obtain ⟨N, X0_j, ua, m2, uc, es2, rfl, rfl, rfl, pj0, pj1, pj2, pj3⟩ := hI
   rw [hF_19]
   refine sr ?_
   obtain ⟨b_20, o_21, e_22, g_23⟩ := (g35.mono le_17).at_ (ne_nil_of_lt hj)
   obtain ⟨c_24, q_25, q_26⟩ := g_23 j hj
   refine ix2 Tryz.runUnderlying24 Tryz.sizeOf64 rfl e_22 rfl rfl hj rfl ?_
   refine la (Says.fz q_25) Tryz.isAgg64 Tryz.sizeOf64 rfl (Nat.add_zero _).symm rfl rfl ?_
   have hwt := wholeTag_at q_26
   refine al Tryz.zeroValue64 rfl rfl (fun b_27 => ?_)
   refine sa Tryz.sizeOf64 rfl rfl rfl rfl rfl .head ?_
   refine nl ?_
   refine rgD 11 (.keep (.skip (.keep (.keep (.keep .nil))))) mixed ?_
   refine dU 0 rfl rfl rfl (y_fa0 F26_4 rfl) (.keep (.skip (.keep (.keep (.keep .nil))))) ler ?_
   refine dU 1 rfl rfl rfl (y_ld (Says.own (.tail .head)) Tryz.isAgg24 rfl (Nat.zero_add _).symm rfl) (.keep (.skip (.keep (.keep (.keep .nil))))) ler ?_
   refine dU 2 rfl rfl rfl (y_fa0 F64_0 rfl) (.keep (.skip (.keep (.keep (.keep .nil))))) ler ?_
   refine dU 3 rfl rfl rfl (y_ld (Says.own .head) Tryz.isAgg62 rfl (Nat.zero_add _).symm rfl) (.keep (.skip (.keep (.keep (.keep .nil))))) ler ?_
   refine dU 4 rfl rfl rfl (y_fa0 F64_1 rfl) (.keep (.skip (.keep (.keep (.keep .nil))))) ler ?_
   refine dU 5 rfl rfl rfl (y_ld (Says.own .head) Tryz.isAgg22 rfl (Nat.zero_add _).symm rfl) (.keep (.skip (.keep (.keep (.keep .nil))))) ler ?_
   refine dE 6 (by kernel_rfl) rfl ?_
   refine cl rfl rfl rfl (s_whole q_26.val rfl) rfl (fun v H1 L1 hle hR => ?_)
   obtain ⟨rfl, rfl, rfl⟩ := hR
   refine dN (.keep (.skip (.keep (.keep (.keep .nil))))) ler ?_
   refine dE 7 (by kernel_rfl) rfl ?_
   refine bd' S64 rfl rfl rfl ?_
   refine dN (.keep (.skip (.keep (.keep (.keep .nil))))) ler ?_
   refine dE 8 (by kernel_rfl) rfl ?_
   refine bs' L24 rfl rfl rfl rfl (fun b_28 => ?_)
   refine dN (.skip (.keep (.skip (.keep (.keep (.keep .nil)))))) ler ?_
   refine dE 9 (by kernel_rfl) rfl ?_
   have hmk : m2 = j := by have h1 := congrArg List.length pj3; rw [List.length_map, List.length_map, List.length_take] at h1; omega
   refine ap (news := f2 (c_24, wholeTag (unknown fs t.u)[j])) Tryz.underlying24 I64 rfl rfl pj0 (fun _ => (.tail (.tail .head))) (src_says Tryz.underlying24 rfl (fun _ => Says.own .head) (f2_one _)) (by omega) (by unfold maxLen; omega) rfl (fun a50 c50 N50 r50 z50 => ?_)
   rw [flatMap_snoc'] at r50
   refine dN (.skip (.keep (.skip (.keep (.keep (.keep .nil)))))) ler ?_
   refine dU 10 rfl rfl rfl (y_fa0 F26_4 rfl) (.skip (.keep (.skip (.keep (.keep (.keep .nil)))))) ler ?_
   refine dE 11 (by kernel_rfl) rfl ?_
   refine st Tryz.sizeOf24 rfl rfl rfl rfl (.tail (.tail (.tail .head))) ?_
   refine dNk (by kernel_rfl) ?_
   refine dD (by kernel_rfl) ?_
   refine Nb ?_
   refine drN .head ?_
   refine drN .head ?_
   refine fun a w hA hw => ⟨_, _, _, hA.sub ?_, le_17, hw, _, rfl, N50, _, a50, _, c50, (es2 ++ [(c_24, wholeTag (unknown fs t.u)[j])]), rfl, hF_19 _ _, rfl, r50, (by simp; omega), (fun p hp => (mem_snoc hp).elim (fun h => pj2 p h) (fun h => h ▸ hwt)), (map_take_snoc hj pj3)⟩
   exact (.of ⟨rfl, rfl, rfl, rfl, rfl, trivial⟩)
  ·
   obtain ⟨N, X0_j, ua, m2, uc, es2, rfl, rfl, rfl, pj0, pj1, pj2, pj3⟩ := hI
   rw [hF_19]
   refine toWp ?_
   have hm2 : m2 = (unknown fs t.u).length := by have h1 := congrArg List.length pj3; rw [List.length_map, List.length_map, List.take_length] at h1; omega
   have hfe2 : es2.map (·.2) = (unknown fs t.u).map wholeTag := by rw [pj3, List.take_length]
   refine frW pj0 .head (fun H3 hle3 hfz3 => ?_)
   have hut := TagsAt.row hfz3 pj1 pj0.le.1 (by unfold B47; omega) (fun p hp => (pj2 p hp).mono hle3)
   rw [hfe2] at hut
   have hlu : ((unknown fs t.u).map wholeTag).length = m2 := by rw [List.length_map]; omega
   refine sr ?_
   refine la (Says.own .head) Tryz.isAgg26 Tryz.sizeOf26 rfl (Nat.zero_add _).symm rfl rfl ?_
   refine sa Tryz.sizeOf26 rfl rfl rfl rfl rfl (.tail .head) ?_
   refine nl ?_
   refine drW .head ?_
   refine drW (.tail .head) ?_
   exact rC rfl Tryz.isAgg26 Tryz.sizeOf26 rfl .head rfl (le_5.trans (hle2.trans (le35.trans (le_18.trans hle3)))) (fun _ _ h => h) ⟨rfl, ⟨none, 0, lA, lC, ua, uc⟩, by rw [← hll, ← hlu]; rfl, TreeAt.of (.nil _) (hlt.mono (le35.trans (le_18.trans hle3))) hut⟩
theorem s_fittedV {f : Fd} {v : Int} (hP : FitC f.sub v) (hne : ¬ f.kind = 11) : FittedC f v := by
 intro H L c e t hF hT
 refine Fn.mk Tryz.call21 Tryz.func21 rfl Tryz.ntmps21 rfl ?_
 refine sr ?_
 refine bx rfl rfl rfl (fun b_1 => ?_)
 refine bx rfl rfl rfl (fun b_2 => ?_)
 refine al Tryz.zeroValue26 rfl rfl (fun b_3 => ?_)
 refine nl ?_
 refine sr ?_
 refine la (Says.own (.tail (.tail .head))) Tryz.isAgg50 Tryz.sizeOf50 rfl (Nat.zero_add _).symm rfl rfl ?_
 refine mv rfl rfl ?_
 refine la (Says.own (.tail .head)) Tryz.isAgg26 Tryz.sizeOf26 rfl (Nat.zero_add _).symm rfl rfl ?_
 refine cl rfl rfl rfl s_null rfl (fun v H1 L1 hle hR => ?_)
 obtain ⟨rfl, rfl, rfl⟩ := hR
 refine asg rfl rfl ?_
 refine nl ?_
 refine sq ?_
 refine sr ?_
 refine fa0 F50_0 rfl rfl ?_
 refine ld (Says.own (.tail (.tail .head))) Tryz.isAgg3 rfl (Nat.zero_add _).symm rfl rfl ?_
 refine nl ?_
 refine bl ?_
 refine sq ?_
 refine sr ?_
 refine eq' rfl rfl rfl ?_
 refine asg rfl rfl ?_
 refine nl ?_
 refine cdU rfl (fun h19 => ?_) (fun h19 => ?_)
 ·
  refine skt ?_
  refine cT rfl ?_
  refine sr ?_
  refine fa0 F26_1 rfl rfl ?_
  refine ld (Says.own (.tail .head)) Tryz.isAgg22 rfl (Nat.zero_add _).symm rfl rfl ?_
  refine cl rfl rfl rfl (s_whole hT.s rfl) rfl (fun v H1 L1 hle hR => ?_)
  obtain ⟨rfl, rfl, rfl⟩ := hR
  refine mv rfl rfl ?_
  refine bd' S26 rfl rfl rfl ?_
  refine sa Tryz.sizeOf26 rfl rfl rfl rfl rfl .head ?_
  refine nl ?_
  refine drW (.tail .head) ?_
  refine drW (.tail .head) ?_
  have e1 : fitF f v t = .mk 0 (whole t.s) (f.isNul v t) [] [] := by rw [fitF_eq]; unfold fitF'; rw [if_neg hne]; unfold fitV; rw [if_pos (Or.inl h19)]
  exact rC rfl Tryz.isAgg26 Tryz.sizeOf26 rfl .head rfl ler (fun _ _ h => h) ⟨rfl, ⟨e.sa, e.sc, none, 0, none, 0⟩, by rw [e1]; rfl, by rw [e1]; exact (TreeAt.of (hT.s.take most) (.nil _) (.nil _))⟩
 ·
  refine rg ?_
  refine eq' rfl rfl rfl ?_
  refine asg rfl rfl ?_
  refine nl ?_
  refine cdU rfl (fun h19b => ?_) (fun h19b => ?_)
  ·
   refine sr ?_
   refine fa0 F26_1 rfl rfl ?_
   refine ld (Says.own (.tail .head)) Tryz.isAgg22 rfl (Nat.zero_add _).symm rfl rfl ?_
   refine cl rfl rfl rfl (s_whole hT.s rfl) rfl (fun v H1 L1 hle hR => ?_)
   obtain ⟨rfl, rfl, rfl⟩ := hR
   refine mv rfl rfl ?_
   refine bd' S26 rfl rfl rfl ?_
   refine sa Tryz.sizeOf26 rfl rfl rfl rfl rfl .head ?_
   refine nl ?_
   refine drW (.tail .head) ?_
   refine drW (.tail .head) ?_
   have e1 : fitF f v t = .mk 0 (whole t.s) (f.isNul v t) [] [] := by rw [fitF_eq]; unfold fitF'; rw [if_neg hne]; unfold fitV; rw [if_pos (Or.inr h19b)]
   exact rC rfl Tryz.isAgg26 Tryz.sizeOf26 rfl .head rfl ler (fun _ _ h => h) ⟨rfl, ⟨e.sa, e.sc, none, 0, none, 0⟩, by rw [e1]; rfl, by rw [e1]; exact (TreeAt.of (hT.s.take most) (.nil _) (.nil _))⟩
  ·
   refine sr ?_
   refine eq' rfl rfl rfl ?_
   refine asg rfl rfl ?_
   refine nl ?_
   refine cdU rfl (fun h27 => ?_) (fun h27 => ?_)
   ·
    refine sr ?_
    refine fa0 F50_7 rfl rfl ?_
    refine ld (Says.own (.tail (.tail .head))) Tryz.isAgg29 rfl (Nat.zero_add _).symm rfl rfl ?_
    refine mv rfl rfl ?_
    refine la (Says.own (.tail .head)) Tryz.isAgg26 Tryz.sizeOf26 rfl (Nat.zero_add _).symm rfl rfl ?_
    refine cl rfl rfl rfl (hP hF.sub hT) rfl (fun v H1 L1 le_4 hR => ?_)
    obtain ⟨rfl, c33, rfl, g33⟩ := hR
    refine al Tryz.zeroValue26 rfl rfl (fun b_5 => ?_)
    refine sa Tryz.sizeOf26 rfl rfl rfl rfl rfl .head ?_
    refine nl ?_
    refine sr ?_
    refine mv rfl rfl ?_
    refine fa0 F26_2 rfl rfl ?_
    refine st Tryz.sizeOf4 rfl rfl rfl rfl .head ?_
    refine nl ?_
    refine sr ?_
    refine la (Says.own .head) Tryz.isAgg26 Tryz.sizeOf26 rfl (Nat.zero_add _).symm rfl rfl ?_
    refine sa Tryz.sizeOf26 rfl rfl rfl rfl rfl (.tail .head) ?_
    refine nl ?_
    refine drW .head ?_
    refine drW (.tail .head) ?_
    refine drW (.tail .head) ?_
    have e1 : fitF f v t = .mk 0 [] (f.isNul v t) (fitsF f.sub v 0 t) ((unknown f.sub t.u).map wholeTag) := by rw [fitF_eq]; unfold fitF'; rw [if_neg hne]; unfold fitV; rw [if_neg (fun h => h.elim h19 h19b), if_pos h27]; rfl
    exact rC rfl Tryz.isAgg26 Tryz.sizeOf26 rfl .head rfl le_4 (fun _ _ h => h) ⟨rfl, c33, by rw [e1]; rfl, by rw [e1]; exact (TreeAt.of g33.s g33.l g33.u)⟩
   ·
    refine sr ?_
    refine eq' rfl rfl rfl ?_
    refine asg rfl rfl ?_
    refine nl ?_
    refine cdU rfl (fun h37 => ?_) (fun h37 => ?_)
    ·
     exact absurd h37 hne
    ·
     refine skN ?_
     refine Nb ?_
     refine Nt ?_
     refine sr ?_
     refine fa0 F26_0 rfl rfl ?_
     refine ld (Says.own (.tail .head)) Tryz.isAgg2 rfl (Nat.zero_add _).symm rfl rfl ?_
     refine fa0 F26_1 rfl rfl ?_
     refine ld (Says.own (.tail .head)) Tryz.isAgg22 rfl (Nat.zero_add _).symm rfl rfl ?_
     refine bd' S26 rfl rfl rfl ?_
     refine sa Tryz.sizeOf26 rfl rfl rfl rfl rfl .head ?_
     refine nl ?_
     refine drW (.tail .head) ?_
     refine drW (.tail .head) ?_
     have e1 : fitF f v t = .mk t.n t.s false [] [] := by rw [fitF_eq]; unfold fitF'; rw [if_neg hne]; unfold fitV; rw [if_neg (fun h => h.elim h19 h19b), if_neg h27]
     exact rC rfl Tryz.isAgg26 Tryz.sizeOf26 rfl .head rfl ler (fun _ _ h => h) ⟨rfl, ⟨e.sa, e.sc, none, 0, none, 0⟩, by rw [e1]; rfl, by rw [e1]; exact (TreeAt.of hT.s (.nil _) (.nil _))⟩
def gOf (f : Fd) : Fd := .mk f.of f.frm f.to (-1) (-1) f.df f.of f.sub
theorem fitF_gOf {f : Fd} (h : ¬ f.of = 11) (v : Int) (x : Tr) : fitF (gOf f) v x = fitV f.of (fit f.sub v) false x := by
 rw [fitF_eq]; unfold fitF'
 rw [if_neg (show ¬ (gOf f).kind = 11 from h)]
 have : (gOf f).isNul v x = false := by show (x.nul && decide ((0 : Int) ≤ -1) && _) = false; simp
 rw [this]; rfl
theorem s_fittedL {f : Fd} {v : Int} (hP : FitC f.sub v) (heq : f.kind = 11) : FittedC f v := by
 intro H L c e t hF hT
 refine Fn.mk Tryz.call21 Tryz.func21 rfl Tryz.ntmps21 rfl ?_
 refine sr ?_
 refine bx rfl rfl rfl (fun b_1 => ?_)
 refine bx rfl rfl rfl (fun b_2 => ?_)
 refine al Tryz.zeroValue26 rfl rfl (fun b_3 => ?_)
 refine nl ?_
 refine sr ?_
 refine la (Says.own (.tail (.tail .head))) Tryz.isAgg50 Tryz.sizeOf50 rfl (Nat.zero_add _).symm rfl rfl ?_
 refine mv rfl rfl ?_
 refine la (Says.own (.tail .head)) Tryz.isAgg26 Tryz.sizeOf26 rfl (Nat.zero_add _).symm rfl rfl ?_
 refine cl rfl rfl rfl s_null rfl (fun v H1 L1 hle hR => ?_)
 obtain ⟨rfl, rfl, rfl⟩ := hR
 refine asg rfl rfl ?_
 refine nl ?_
 refine sq ?_
 refine sr ?_
 refine fa0 F50_0 rfl rfl ?_
 refine ld (Says.own (.tail (.tail .head))) Tryz.isAgg3 rfl (Nat.zero_add _).symm rfl rfl ?_
 refine nl ?_
 refine bl ?_
 refine sq ?_
 refine sr ?_
 refine eq' rfl rfl rfl ?_
 refine asg rfl rfl ?_
 refine nl ?_
 refine cdU rfl (fun h19 => ?_) (fun h19 => ?_)
 ·
  exact (by omega)
 ·
  refine rg ?_
  refine eq' rfl rfl rfl ?_
  refine asg rfl rfl ?_
  refine nl ?_
  refine cdU rfl (fun h19b => ?_) (fun h19b => ?_)
  ·
   exact (by omega)
  ·
   refine sr ?_
   refine eq' rfl rfl rfl ?_
   refine asg rfl rfl ?_
   refine nl ?_
   refine cdU rfl (fun h27 => ?_) (fun h27 => ?_)
   ·
    exact (by omega)
   ·
    refine sr ?_
    refine eq' rfl rfl rfl ?_
    refine asg rfl rfl ?_
    refine nl ?_
    refine cdU rfl (fun h37 => ?_) (fun h37 => ?_)
    ·
     refine sr ?_
     refine mv rfl rfl ?_
     refine mv rfl rfl ?_
     refine splb (t := 40) rfl (fun h40 => ?_) (fun h40 => ?_)
     ·
      refine gs rfl rfl rfl rfl ?_
      refine gs rfl rfl rfl rfl ?_
      refine gs rfl rfl rfl rfl ?_
      refine gs rfl rfl rfl rfl ?_
      refine gu rfl rfl rfl ?_
      refine gu rfl rfl rfl ?_
      refine gu rfl rfl rfl ?_
      refine gu rfl rfl rfl ?_
      refine gs rfl rfl rfl rfl ?_
      refine pk rfl rfl rfl rfl ?_
      refine bd' S26 rfl rfl rfl ?_
      refine al Tryz.zeroValue26 rfl rfl (fun b_4 => ?_)
      refine sa Tryz.sizeOf26 rfl rfl rfl rfl rfl .head ?_
      refine nl ?_
      refine sr ?_
      refine la (Says.own (.tail (.tail (.tail .head)))) Tryz.isAgg50 Tryz.sizeOf50 rfl (Nat.zero_add _).symm rfl rfl ?_
      refine al Tryz.zeroValue50 rfl rfl (fun b_5 => ?_)
      refine sa Tryz.sizeOf50 rfl rfl rfl rfl rfl .head ?_
      refine nl ?_
      refine sr ?_
      refine fa0 F50_6 rfl rfl ?_
      refine ld (Says.own (.tail (.tail (.tail (.tail .head))))) Tryz.isAgg3 rfl (Nat.zero_add _).symm rfl rfl ?_
      refine fa0 F50_0 rfl rfl ?_
      refine st Tryz.sizeOf3 rfl rfl rfl rfl .head ?_
      refine fa0 F50_3 rfl rfl ?_
      refine st Tryz.sizeOf3 rfl rfl rfl rfl .head ?_
      refine fa0 F50_4 rfl rfl ?_
      refine st Tryz.sizeOf3 rfl rfl rfl rfl .head ?_
      refine nl ?_
      refine sq ?_
      refine sr ?_
      refine fa0 F26_3 rfl rfl ?_
      refine ld (Says.own (.tail (.tail (.tail .head)))) Tryz.isAgg23 rfl (Nat.zero_add _).symm rfl rfl ?_
      refine cl rfl rfl rfl (s_things hT.l rfl) rfl (fun v H1 L1 hle hR => ?_)
      obtain ⟨rfl, rfl, rfl⟩ := hR
      have q60 := take_most_len t.l
      refine ls Tryz.runUnderlying23 rfl rfl ?_
      refine mv rfl rfl ?_
      refine nl ?_
      refine nilC ?_
      have hof := hF.tag.2
      have hV : FittedC (gOf f) v := s_fittedV (f := gOf f) hP hof
      refine capF2 (N := []) (M := _) (fun _ => .head) (fun _ _ => (.tail (.tail .head))) (fun F_8 hF_8 => ?_)
      refine fr ((t.l.take most).length) (fun k l' H' L' => ∃ N : Chunk, ∃ X0_k : Chunk, ∃ lA m lC es, [(1, .int .i64 v), (6, .pointer (some ⟨b_3, 0, none⟩)), (9, .pointer (some ⟨b_4, 0, none⟩)), (10, .pointer (some ⟨b_5, 0, none⟩)), (60, .slice e.la (t.l.take most).length e.lc), (61, .int .i64 ((t.l.take most).length : Int))] = l' ∧ F_8 N X0_k = L' ∧ X0_k = [(b_4, .cells [.int .i64 0, .slice none 0 0, .bool (true), .slice lA m lC, .slice none 0 0].toArray 26 (0, 0))] ∧ Row 26 5 lA m lC ((es : List EE).flatMap f5) N ∧ m = es.length ∧ (∀ p : EE, p ∈ es → TreeAt H' p.1 p.2) ∧ es.map (·.2) = ((t.l.take most).take k).map (fitV f.of (fit f.sub v) false)) [(1, .int .i64 v), (6, .pointer (some ⟨b_3, 0, none⟩)), (9, .pointer (some ⟨b_4, 0, none⟩)), (10, .pointer (some ⟨b_5, 0, none⟩)), (60, .slice e.la (t.l.take most).length e.lc), (61, .int .i64 ((t.l.take most).length : Int))] (fun k l' H' L' h => ?_) (by omega) rfl (.of ⟨rfl, rfl, rfl, rfl, rfl, rfl, trivial⟩) ⟨[], _, none, 0, 0, [], rfl, rfl, rfl, (Row.nil _ _), rfl, (fun p hp => by cases hp), (by simp)⟩ rfl rfl rfl rfl rfl (fun k l' H' L' hk le_6 hI => ?_) (fun l' H' L' le_7 hI => ?_)
      · obtain ⟨N, X0_k, lA, m, lC, es, rfl, _⟩ := h; exact ⟨rfl, rfl, rfl, rfl⟩
      ·
       obtain ⟨N, X0_k, lA, m, lC, es, rfl, rfl, rfl, pk0, pk1, pk2, pk3⟩ := hI
       rw [hF_8]
       refine sr ?_
       obtain ⟨b_9, o_10, e_11, g_12⟩ := ((hT.l.take most).mono le_6).at_ (ne_nil_of_lt hk)
       obtain ⟨c_13, q_14, q_15⟩ := g_12 k hk
       refine ix2 Tryz.runUnderlying23 Tryz.sizeOf26 rfl e_11 rfl rfl hk rfl ?_
       refine la (Says.fz q_14) Tryz.isAgg26 Tryz.sizeOf26 rfl (Nat.add_zero _).symm rfl rfl ?_
       refine al Tryz.zeroValue26 rfl rfl (fun b_16 => ?_)
       refine sa Tryz.sizeOf26 rfl rfl rfl rfl rfl .head ?_
       refine nl ?_
       refine rgD 9 (.keep (.skip (.keep (.keep (.keep (.keep (.keep .nil))))))) mixed ?_
       refine dU 0 rfl rfl rfl (y_fa0 F26_3 rfl) (.keep (.skip (.keep (.keep (.keep (.keep (.keep .nil))))))) ler ?_
       refine dU 1 rfl rfl rfl (y_ld (Says.own (.tail (.tail .head))) Tryz.isAgg23 rfl (Nat.zero_add _).symm rfl) (.keep (.skip (.keep (.keep (.keep (.keep (.keep .nil))))))) ler ?_
       refine dU 2 rfl rfl rfl (y_la (Says.own (.tail .head)) Tryz.isAgg50 Tryz.sizeOf50 rfl (Nat.zero_add _).symm rfl) (.keep (.skip (.keep (.keep (.keep (.keep (.keep .nil))))))) ler ?_
       refine dU 3 rfl rfl rfl (y_mv rfl) (.keep (.skip (.keep (.keep (.keep (.keep (.keep .nil))))))) ler ?_
       refine dU 4 rfl rfl rfl (y_la (Says.own .head) Tryz.isAgg26 Tryz.sizeOf26 rfl (Nat.zero_add _).symm rfl) (.keep (.skip (.keep (.keep (.keep (.keep (.keep .nil))))))) ler ?_
       refine dE 5 (by kernel_rfl) rfl ?_
       have hg : FdAt _ c (gOf f) := FdAt.of ⟨show (-1 : Int) ≤ 1000 by decide, hof⟩ (hF.sub.mono le_6)
       refine cl rfl rfl rfl (hV hg q_15) rfl (fun v H1 L1 le_17 hR => ?_)
       obtain ⟨rfl, c71, rfl, g71⟩ := hR
       rw [fitF_gOf hof] at g71 ⊢
       refine dN (.keep (.skip (.keep (.keep (.keep (.keep (.keep .nil))))))) le_17 ?_
       refine dE 6 (by kernel_rfl) rfl ?_
       refine bs' L23 rfl rfl rfl rfl (fun b_18 => ?_)
       refine dN (.skip (.keep (.skip (.keep (.keep (.keep (.keep (.keep .nil)))))))) le_17 ?_
       refine dE 7 (by kernel_rfl) rfl ?_
       have hmk : m = k := by have h1 := congrArg List.length pk3; rw [List.length_map, List.length_map, List.length_take] at h1; omega
       refine ap (news := f5 (c71, fitV f.of (fit f.sub v) false (t.l.take most)[k])) Tryz.underlying23 I26 rfl rfl pk0 (fun _ => (.tail (.tail .head))) (src_says Tryz.underlying23 rfl (fun _ => Says.own .head) (f5_one _)) (by omega) (by unfold maxLen; omega) rfl (fun a73 c73 N73 r73 z73 => ?_)
       rw [flatMap_snoc'] at r73
       refine dN (.skip (.keep (.skip (.keep (.keep (.keep (.keep (.keep .nil)))))))) le_17 ?_
       refine dU 8 rfl rfl rfl (y_fa0 F26_3 rfl) (.skip (.keep (.skip (.keep (.keep (.keep (.keep (.keep .nil)))))))) le_17 ?_
       refine dE 9 (by kernel_rfl) rfl ?_
       refine st Tryz.sizeOf23 rfl rfl rfl rfl (.tail (.tail (.tail (.tail .head)))) ?_
       refine dNk (by kernel_rfl) ?_
       refine dD (by kernel_rfl) ?_
       refine Nb ?_
       refine drN .head ?_
       refine drN .head ?_
       refine fun a w hA hw => ⟨_, _, _, hA.sub ?_, (le_6.trans le_17), hw, _, rfl, N73, _, a73, _, c73, (es ++ [(c71, fitV f.of (fit f.sub v) false (t.l.take most)[k])]), rfl, hF_8 _ _, rfl, r73, (by simp; omega), (fun p hp => (mem_snoc hp).elim (fun h => (pk2 p h).mono le_17) (fun h => h ▸ g71)), (map_take_snoc hk pk3)⟩
       exact (.of ⟨rfl, rfl, rfl, rfl, rfl, rfl, rfl, trivial⟩)
      ·
       obtain ⟨N, X0_k, lA, m, lC, es, rfl, rfl, rfl, pk0, pk1, pk2, pk3⟩ := hI
       rw [hF_8]
       refine toWp ?_
       have hm : m = (t.l.take most).length := by have h1 := congrArg List.length pk3; rw [List.length_map, List.length_map, List.take_length] at h1; omega
       have hfe : es.map (·.2) = (t.l.take most).map (fitV f.of (fit f.sub v) false) := by rw [pk3, List.take_length]
       refine frW pk0 .head (fun H2 hle2 hfz => ?_)
       have hlt := TreesAt.row hfz pk1 pk0.le.1 (by unfold B47; omega) (fun p hp => (pk2 p hp).mono hle2)
       rw [hfe] at hlt
       have hll : ((t.l.take most).map (fitV f.of (fit f.sub v) false)).length = m := by rw [List.length_map]; omega
       refine sr ?_
       refine la (Says.own (.tail .head)) Tryz.isAgg26 Tryz.sizeOf26 rfl (Nat.zero_add _).symm rfl rfl ?_
       refine sa Tryz.sizeOf26 rfl rfl rfl rfl rfl (.tail (.tail .head)) ?_
       refine nl ?_
       refine drW .head ?_
       refine drW .head ?_
       refine drW (.tail .head) ?_
       refine drW (.tail .head) ?_
       have e1 : fitF f v t = .mk 0 [] (f.isNul v t || (decide (0 ≤ f.tag) && t.l.isEmpty)) ((t.l.take most).map (fitV f.of (fit f.sub v) false)) [] := by rw [fitF_eq]; unfold fitF'; rw [if_pos heq]; rfl
       have e2 : (f.isNul v t || (decide (0 ≤ f.tag) && t.l.isEmpty)) = true := by rw [h40]; rfl
       exact rC rfl Tryz.isAgg26 Tryz.sizeOf26 rfl .head rfl (le_7.trans hle2) (fun _ _ h => h) ⟨rfl, ⟨none, 0, lA, lC, none, 0⟩, by rw [e1, e2, ← hll]; rfl, by rw [e1]; exact TreeAt.of (.nil _) hlt (.nil _)⟩
     ·
      refine gr rfl rfl ?_
      refine fa0 F50_4 rfl rfl ?_
      refine gr rfl rfl ?_
      refine ld (Says.own (.tail (.tail .head))) Tryz.isAgg3 rfl (Nat.zero_add _).symm rfl rfl ?_
      refine gr rfl rfl ?_
      refine ge rfl rfl rfl ?_
      refine gr rfl rfl ?_
      refine mv rfl rfl ?_
      refine spl (t := 44) rfl (fun h44 => ?_) (fun h44 => ?_)
      ·
       refine gr rfl rfl ?_
       refine fa0 F26_3 rfl rfl ?_
       refine gr rfl rfl ?_
       refine ld (Says.own (.tail .head)) Tryz.isAgg23 rfl (Nat.zero_add _).symm rfl rfl ?_
       refine gr rfl rfl ?_
       refine ls Tryz.runUnderlying23 rfl rfl ?_
       refine gr rfl rfl ?_
       refine eq' rfl rfl rfl ?_
       refine gr rfl rfl ?_
       refine pk rfl rfl rfl rfl ?_
       refine pk rfl rfl rfl rfl ?_
       refine bd' S26 rfl rfl rfl ?_
       refine al Tryz.zeroValue26 rfl rfl (fun b_19 => ?_)
       refine sa Tryz.sizeOf26 rfl rfl rfl rfl rfl .head ?_
       refine nl ?_
       refine sr ?_
       refine la (Says.own (.tail (.tail (.tail .head)))) Tryz.isAgg50 Tryz.sizeOf50 rfl (Nat.zero_add _).symm rfl rfl ?_
       refine al Tryz.zeroValue50 rfl rfl (fun b_20 => ?_)
       refine sa Tryz.sizeOf50 rfl rfl rfl rfl rfl .head ?_
       refine nl ?_
       refine sr ?_
       refine fa0 F50_6 rfl rfl ?_
       refine ld (Says.own (.tail (.tail (.tail (.tail .head))))) Tryz.isAgg3 rfl (Nat.zero_add _).symm rfl rfl ?_
       refine fa0 F50_0 rfl rfl ?_
       refine st Tryz.sizeOf3 rfl rfl rfl rfl .head ?_
       refine fa0 F50_3 rfl rfl ?_
       refine st Tryz.sizeOf3 rfl rfl rfl rfl .head ?_
       refine fa0 F50_4 rfl rfl ?_
       refine st Tryz.sizeOf3 rfl rfl rfl rfl .head ?_
       refine nl ?_
       refine sq ?_
       refine sr ?_
       refine fa0 F26_3 rfl rfl ?_
       refine ld (Says.own (.tail (.tail (.tail .head)))) Tryz.isAgg23 rfl (Nat.zero_add _).symm rfl rfl ?_
       refine cl rfl rfl rfl (s_things hT.l rfl) rfl (fun v H1 L1 hle hR => ?_)
       obtain ⟨rfl, rfl, rfl⟩ := hR
       have q60 := take_most_len t.l
       refine ls Tryz.runUnderlying23 rfl rfl ?_
       refine mv rfl rfl ?_
       refine nl ?_
       refine nilC ?_
       have hof := hF.tag.2
       have hV : FittedC (gOf f) v := s_fittedV (f := gOf f) hP hof
       refine capF2 (N := []) (M := _) (fun _ => .head) (fun _ _ => (.tail (.tail .head))) (fun F_23 hF_23 => ?_)
       refine fr ((t.l.take most).length) (fun k l' H' L' => ∃ N : Chunk, ∃ X0_k : Chunk, ∃ lA m lC es, [(1, .int .i64 v), (6, .pointer (some ⟨b_3, 0, none⟩)), (9, .pointer (some ⟨b_19, 0, none⟩)), (10, .pointer (some ⟨b_20, 0, none⟩)), (60, .slice e.la (t.l.take most).length e.lc), (61, .int .i64 ((t.l.take most).length : Int))] = l' ∧ F_23 N X0_k = L' ∧ X0_k = [(b_19, .cells [.int .i64 0, .slice none 0 0, .bool (decide ((t.l.length : Int) = 0)), .slice lA m lC, .slice none 0 0].toArray 26 (0, 0))] ∧ Row 26 5 lA m lC ((es : List EE).flatMap f5) N ∧ m = es.length ∧ (∀ p : EE, p ∈ es → TreeAt H' p.1 p.2) ∧ es.map (·.2) = ((t.l.take most).take k).map (fitV f.of (fit f.sub v) false)) [(1, .int .i64 v), (6, .pointer (some ⟨b_3, 0, none⟩)), (9, .pointer (some ⟨b_19, 0, none⟩)), (10, .pointer (some ⟨b_20, 0, none⟩)), (60, .slice e.la (t.l.take most).length e.lc), (61, .int .i64 ((t.l.take most).length : Int))] (fun k l' H' L' h => ?_) (by omega) rfl (.of ⟨rfl, rfl, rfl, rfl, rfl, rfl, trivial⟩) ⟨[], _, none, 0, 0, [], rfl, rfl, rfl, (Row.nil _ _), rfl, (fun p hp => by cases hp), (by simp)⟩ rfl rfl rfl rfl rfl (fun k l' H' L' hk le_21 hI => ?_) (fun l' H' L' le_22 hI => ?_)
       · obtain ⟨N, X0_k, lA, m, lC, es, rfl, _⟩ := h; exact ⟨rfl, rfl, rfl, rfl⟩
       ·
        obtain ⟨N, X0_k, lA, m, lC, es, rfl, rfl, rfl, pk0, pk1, pk2, pk3⟩ := hI
        rw [hF_23]
        refine sr ?_
        obtain ⟨b_24, o_25, e_26, g_27⟩ := ((hT.l.take most).mono le_21).at_ (ne_nil_of_lt hk)
        obtain ⟨c_28, q_29, q_30⟩ := g_27 k hk
        refine ix2 Tryz.runUnderlying23 Tryz.sizeOf26 rfl e_26 rfl rfl hk rfl ?_
        refine la (Says.fz q_29) Tryz.isAgg26 Tryz.sizeOf26 rfl (Nat.add_zero _).symm rfl rfl ?_
        refine al Tryz.zeroValue26 rfl rfl (fun b_31 => ?_)
        refine sa Tryz.sizeOf26 rfl rfl rfl rfl rfl .head ?_
        refine nl ?_
        refine rgD 9 (.keep (.skip (.keep (.keep (.keep (.keep (.keep .nil))))))) mixed ?_
        refine dU 0 rfl rfl rfl (y_fa0 F26_3 rfl) (.keep (.skip (.keep (.keep (.keep (.keep (.keep .nil))))))) ler ?_
        refine dU 1 rfl rfl rfl (y_ld (Says.own (.tail (.tail .head))) Tryz.isAgg23 rfl (Nat.zero_add _).symm rfl) (.keep (.skip (.keep (.keep (.keep (.keep (.keep .nil))))))) ler ?_
        refine dU 2 rfl rfl rfl (y_la (Says.own (.tail .head)) Tryz.isAgg50 Tryz.sizeOf50 rfl (Nat.zero_add _).symm rfl) (.keep (.skip (.keep (.keep (.keep (.keep (.keep .nil))))))) ler ?_
        refine dU 3 rfl rfl rfl (y_mv rfl) (.keep (.skip (.keep (.keep (.keep (.keep (.keep .nil))))))) ler ?_
        refine dU 4 rfl rfl rfl (y_la (Says.own .head) Tryz.isAgg26 Tryz.sizeOf26 rfl (Nat.zero_add _).symm rfl) (.keep (.skip (.keep (.keep (.keep (.keep (.keep .nil))))))) ler ?_
        refine dE 5 (by kernel_rfl) rfl ?_
        have hg : FdAt _ c (gOf f) := FdAt.of ⟨show (-1 : Int) ≤ 1000 by decide, hof⟩ (hF.sub.mono le_21)
        refine cl rfl rfl rfl (hV hg q_30) rfl (fun v H1 L1 le_32 hR => ?_)
        obtain ⟨rfl, c71, rfl, g71⟩ := hR
        rw [fitF_gOf hof] at g71 ⊢
        refine dN (.keep (.skip (.keep (.keep (.keep (.keep (.keep .nil))))))) le_32 ?_
        refine dE 6 (by kernel_rfl) rfl ?_
        refine bs' L23 rfl rfl rfl rfl (fun b_33 => ?_)
        refine dN (.skip (.keep (.skip (.keep (.keep (.keep (.keep (.keep .nil)))))))) le_32 ?_
        refine dE 7 (by kernel_rfl) rfl ?_
        have hmk : m = k := by have h1 := congrArg List.length pk3; rw [List.length_map, List.length_map, List.length_take] at h1; omega
        refine ap (news := f5 (c71, fitV f.of (fit f.sub v) false (t.l.take most)[k])) Tryz.underlying23 I26 rfl rfl pk0 (fun _ => (.tail (.tail .head))) (src_says Tryz.underlying23 rfl (fun _ => Says.own .head) (f5_one _)) (by omega) (by unfold maxLen; omega) rfl (fun a73 c73 N73 r73 z73 => ?_)
        rw [flatMap_snoc'] at r73
        refine dN (.skip (.keep (.skip (.keep (.keep (.keep (.keep (.keep .nil)))))))) le_32 ?_
        refine dU 8 rfl rfl rfl (y_fa0 F26_3 rfl) (.skip (.keep (.skip (.keep (.keep (.keep (.keep (.keep .nil)))))))) le_32 ?_
        refine dE 9 (by kernel_rfl) rfl ?_
        refine st Tryz.sizeOf23 rfl rfl rfl rfl (.tail (.tail (.tail (.tail .head)))) ?_
        refine dNk (by kernel_rfl) ?_
        refine dD (by kernel_rfl) ?_
        refine Nb ?_
        refine drN .head ?_
        refine drN .head ?_
        refine fun a w hA hw => ⟨_, _, _, hA.sub ?_, (le_21.trans le_32), hw, _, rfl, N73, _, a73, _, c73, (es ++ [(c71, fitV f.of (fit f.sub v) false (t.l.take most)[k])]), rfl, hF_23 _ _, rfl, r73, (by simp; omega), (fun p hp => (mem_snoc hp).elim (fun h => (pk2 p h).mono le_32) (fun h => h ▸ g71)), (map_take_snoc hk pk3)⟩
        exact (.of ⟨rfl, rfl, rfl, rfl, rfl, rfl, rfl, trivial⟩)
       ·
        obtain ⟨N, X0_k, lA, m, lC, es, rfl, rfl, rfl, pk0, pk1, pk2, pk3⟩ := hI
        rw [hF_23]
        refine toWp ?_
        have hm : m = (t.l.take most).length := by have h1 := congrArg List.length pk3; rw [List.length_map, List.length_map, List.take_length] at h1; omega
        have hfe : es.map (·.2) = (t.l.take most).map (fitV f.of (fit f.sub v) false) := by rw [pk3, List.take_length]
        refine frW pk0 .head (fun H2 hle2 hfz => ?_)
        have hlt := TreesAt.row hfz pk1 pk0.le.1 (by unfold B47; omega) (fun p hp => (pk2 p hp).mono hle2)
        rw [hfe] at hlt
        have hll : ((t.l.take most).map (fitV f.of (fit f.sub v) false)).length = m := by rw [List.length_map]; omega
        refine sr ?_
        refine la (Says.own (.tail .head)) Tryz.isAgg26 Tryz.sizeOf26 rfl (Nat.zero_add _).symm rfl rfl ?_
        refine sa Tryz.sizeOf26 rfl rfl rfl rfl rfl (.tail (.tail .head)) ?_
        refine nl ?_
        refine drW .head ?_
        refine drW .head ?_
        refine drW (.tail .head) ?_
        refine drW (.tail .head) ?_
        have e1 : fitF f v t = .mk 0 [] (f.isNul v t || (decide (0 ≤ f.tag) && t.l.isEmpty)) ((t.l.take most).map (fitV f.of (fit f.sub v) false)) [] := by rw [fitF_eq]; unfold fitF'; rw [if_pos heq]; rfl
        have e2 : (f.isNul v t || (decide (0 ≤ f.tag) && t.l.isEmpty)) = decide ((t.l.length : Int) = 0) := by rw [h40, ← len_zero]; simp [h44]
        exact rC rfl Tryz.isAgg26 Tryz.sizeOf26 rfl .head rfl (le_22.trans hle2) (fun _ _ h => h) ⟨rfl, ⟨none, 0, lA, lC, none, 0⟩, by rw [e1, e2, ← hll]; rfl, by rw [e1]; exact TreeAt.of (.nil _) hlt (.nil _)⟩
      ·
       refine gs rfl rfl rfl rfl ?_
       refine gs rfl rfl rfl rfl ?_
       refine gs rfl rfl rfl rfl ?_
       refine gs rfl rfl rfl rfl ?_
       refine gr rfl rfl ?_
       refine pk rfl rfl rfl rfl ?_
       refine pk rfl rfl rfl rfl ?_
       refine bd' S26 rfl rfl rfl ?_
       refine al Tryz.zeroValue26 rfl rfl (fun b_34 => ?_)
       refine sa Tryz.sizeOf26 rfl rfl rfl rfl rfl .head ?_
       refine nl ?_
       refine sr ?_
       refine la (Says.own (.tail (.tail (.tail .head)))) Tryz.isAgg50 Tryz.sizeOf50 rfl (Nat.zero_add _).symm rfl rfl ?_
       refine al Tryz.zeroValue50 rfl rfl (fun b_35 => ?_)
       refine sa Tryz.sizeOf50 rfl rfl rfl rfl rfl .head ?_
       refine nl ?_
       refine sr ?_
       refine fa0 F50_6 rfl rfl ?_
       refine ld (Says.own (.tail (.tail (.tail (.tail .head))))) Tryz.isAgg3 rfl (Nat.zero_add _).symm rfl rfl ?_
       refine fa0 F50_0 rfl rfl ?_
       refine st Tryz.sizeOf3 rfl rfl rfl rfl .head ?_
       refine fa0 F50_3 rfl rfl ?_
       refine st Tryz.sizeOf3 rfl rfl rfl rfl .head ?_
       refine fa0 F50_4 rfl rfl ?_
       refine st Tryz.sizeOf3 rfl rfl rfl rfl .head ?_
       refine nl ?_
       refine sq ?_
       refine sr ?_
       refine fa0 F26_3 rfl rfl ?_
       refine ld (Says.own (.tail (.tail (.tail .head)))) Tryz.isAgg23 rfl (Nat.zero_add _).symm rfl rfl ?_
       refine cl rfl rfl rfl (s_things hT.l rfl) rfl (fun v H1 L1 hle hR => ?_)
       obtain ⟨rfl, rfl, rfl⟩ := hR
       have q60 := take_most_len t.l
       refine ls Tryz.runUnderlying23 rfl rfl ?_
       refine mv rfl rfl ?_
       refine nl ?_
       refine nilC ?_
       have hof := hF.tag.2
       have hV : FittedC (gOf f) v := s_fittedV (f := gOf f) hP hof
       refine capF2 (N := []) (M := _) (fun _ => .head) (fun _ _ => (.tail (.tail .head))) (fun F_38 hF_38 => ?_)
       refine fr ((t.l.take most).length) (fun k l' H' L' => ∃ N : Chunk, ∃ X0_k : Chunk, ∃ lA m lC es, [(1, .int .i64 v), (6, .pointer (some ⟨b_3, 0, none⟩)), (9, .pointer (some ⟨b_34, 0, none⟩)), (10, .pointer (some ⟨b_35, 0, none⟩)), (60, .slice e.la (t.l.take most).length e.lc), (61, .int .i64 ((t.l.take most).length : Int))] = l' ∧ F_38 N X0_k = L' ∧ X0_k = [(b_34, .cells [.int .i64 0, .slice none 0 0, .bool (false), .slice lA m lC, .slice none 0 0].toArray 26 (0, 0))] ∧ Row 26 5 lA m lC ((es : List EE).flatMap f5) N ∧ m = es.length ∧ (∀ p : EE, p ∈ es → TreeAt H' p.1 p.2) ∧ es.map (·.2) = ((t.l.take most).take k).map (fitV f.of (fit f.sub v) false)) [(1, .int .i64 v), (6, .pointer (some ⟨b_3, 0, none⟩)), (9, .pointer (some ⟨b_34, 0, none⟩)), (10, .pointer (some ⟨b_35, 0, none⟩)), (60, .slice e.la (t.l.take most).length e.lc), (61, .int .i64 ((t.l.take most).length : Int))] (fun k l' H' L' h => ?_) (by omega) rfl (.of ⟨rfl, rfl, rfl, rfl, rfl, rfl, trivial⟩) ⟨[], _, none, 0, 0, [], rfl, rfl, rfl, (Row.nil _ _), rfl, (fun p hp => by cases hp), (by simp)⟩ rfl rfl rfl rfl rfl (fun k l' H' L' hk le_36 hI => ?_) (fun l' H' L' le_37 hI => ?_)
       · obtain ⟨N, X0_k, lA, m, lC, es, rfl, _⟩ := h; exact ⟨rfl, rfl, rfl, rfl⟩
       ·
        obtain ⟨N, X0_k, lA, m, lC, es, rfl, rfl, rfl, pk0, pk1, pk2, pk3⟩ := hI
        rw [hF_38]
        refine sr ?_
        obtain ⟨b_39, o_40, e_41, g_42⟩ := ((hT.l.take most).mono le_36).at_ (ne_nil_of_lt hk)
        obtain ⟨c_43, q_44, q_45⟩ := g_42 k hk
        refine ix2 Tryz.runUnderlying23 Tryz.sizeOf26 rfl e_41 rfl rfl hk rfl ?_
        refine la (Says.fz q_44) Tryz.isAgg26 Tryz.sizeOf26 rfl (Nat.add_zero _).symm rfl rfl ?_
        refine al Tryz.zeroValue26 rfl rfl (fun b_46 => ?_)
        refine sa Tryz.sizeOf26 rfl rfl rfl rfl rfl .head ?_
        refine nl ?_
        refine rgD 9 (.keep (.skip (.keep (.keep (.keep (.keep (.keep .nil))))))) mixed ?_
        refine dU 0 rfl rfl rfl (y_fa0 F26_3 rfl) (.keep (.skip (.keep (.keep (.keep (.keep (.keep .nil))))))) ler ?_
        refine dU 1 rfl rfl rfl (y_ld (Says.own (.tail (.tail .head))) Tryz.isAgg23 rfl (Nat.zero_add _).symm rfl) (.keep (.skip (.keep (.keep (.keep (.keep (.keep .nil))))))) ler ?_
        refine dU 2 rfl rfl rfl (y_la (Says.own (.tail .head)) Tryz.isAgg50 Tryz.sizeOf50 rfl (Nat.zero_add _).symm rfl) (.keep (.skip (.keep (.keep (.keep (.keep (.keep .nil))))))) ler ?_
        refine dU 3 rfl rfl rfl (y_mv rfl) (.keep (.skip (.keep (.keep (.keep (.keep (.keep .nil))))))) ler ?_
        refine dU 4 rfl rfl rfl (y_la (Says.own .head) Tryz.isAgg26 Tryz.sizeOf26 rfl (Nat.zero_add _).symm rfl) (.keep (.skip (.keep (.keep (.keep (.keep (.keep .nil))))))) ler ?_
        refine dE 5 (by kernel_rfl) rfl ?_
        have hg : FdAt _ c (gOf f) := FdAt.of ⟨show (-1 : Int) ≤ 1000 by decide, hof⟩ (hF.sub.mono le_36)
        refine cl rfl rfl rfl (hV hg q_45) rfl (fun v H1 L1 le_47 hR => ?_)
        obtain ⟨rfl, c71, rfl, g71⟩ := hR
        rw [fitF_gOf hof] at g71 ⊢
        refine dN (.keep (.skip (.keep (.keep (.keep (.keep (.keep .nil))))))) le_47 ?_
        refine dE 6 (by kernel_rfl) rfl ?_
        refine bs' L23 rfl rfl rfl rfl (fun b_48 => ?_)
        refine dN (.skip (.keep (.skip (.keep (.keep (.keep (.keep (.keep .nil)))))))) le_47 ?_
        refine dE 7 (by kernel_rfl) rfl ?_
        have hmk : m = k := by have h1 := congrArg List.length pk3; rw [List.length_map, List.length_map, List.length_take] at h1; omega
        refine ap (news := f5 (c71, fitV f.of (fit f.sub v) false (t.l.take most)[k])) Tryz.underlying23 I26 rfl rfl pk0 (fun _ => (.tail (.tail .head))) (src_says Tryz.underlying23 rfl (fun _ => Says.own .head) (f5_one _)) (by omega) (by unfold maxLen; omega) rfl (fun a73 c73 N73 r73 z73 => ?_)
        rw [flatMap_snoc'] at r73
        refine dN (.skip (.keep (.skip (.keep (.keep (.keep (.keep (.keep .nil)))))))) le_47 ?_
        refine dU 8 rfl rfl rfl (y_fa0 F26_3 rfl) (.skip (.keep (.skip (.keep (.keep (.keep (.keep (.keep .nil)))))))) le_47 ?_
        refine dE 9 (by kernel_rfl) rfl ?_
        refine st Tryz.sizeOf23 rfl rfl rfl rfl (.tail (.tail (.tail (.tail .head)))) ?_
        refine dNk (by kernel_rfl) ?_
        refine dD (by kernel_rfl) ?_
        refine Nb ?_
        refine drN .head ?_
        refine drN .head ?_
        refine fun a w hA hw => ⟨_, _, _, hA.sub ?_, (le_36.trans le_47), hw, _, rfl, N73, _, a73, _, c73, (es ++ [(c71, fitV f.of (fit f.sub v) false (t.l.take most)[k])]), rfl, hF_38 _ _, rfl, r73, (by simp; omega), (fun p hp => (mem_snoc hp).elim (fun h => (pk2 p h).mono le_47) (fun h => h ▸ g71)), (map_take_snoc hk pk3)⟩
        exact (.of ⟨rfl, rfl, rfl, rfl, rfl, rfl, rfl, trivial⟩)
       ·
        obtain ⟨N, X0_k, lA, m, lC, es, rfl, rfl, rfl, pk0, pk1, pk2, pk3⟩ := hI
        rw [hF_38]
        refine toWp ?_
        have hm : m = (t.l.take most).length := by have h1 := congrArg List.length pk3; rw [List.length_map, List.length_map, List.take_length] at h1; omega
        have hfe : es.map (·.2) = (t.l.take most).map (fitV f.of (fit f.sub v) false) := by rw [pk3, List.take_length]
        refine frW pk0 .head (fun H2 hle2 hfz => ?_)
        have hlt := TreesAt.row hfz pk1 pk0.le.1 (by unfold B47; omega) (fun p hp => (pk2 p hp).mono hle2)
        rw [hfe] at hlt
        have hll : ((t.l.take most).map (fitV f.of (fit f.sub v) false)).length = m := by rw [List.length_map]; omega
        refine sr ?_
        refine la (Says.own (.tail .head)) Tryz.isAgg26 Tryz.sizeOf26 rfl (Nat.zero_add _).symm rfl rfl ?_
        refine sa Tryz.sizeOf26 rfl rfl rfl rfl rfl (.tail (.tail .head)) ?_
        refine nl ?_
        refine drW .head ?_
        refine drW .head ?_
        refine drW (.tail .head) ?_
        refine drW (.tail .head) ?_
        have e1 : fitF f v t = .mk 0 [] (f.isNul v t || (decide (0 ≤ f.tag) && t.l.isEmpty)) ((t.l.take most).map (fitV f.of (fit f.sub v) false)) [] := by rw [fitF_eq]; unfold fitF'; rw [if_pos heq]; rfl
        have e2 : (f.isNul v t || (decide (0 ≤ f.tag) && t.l.isEmpty)) = false := by rw [h40]; simp [h44]
        exact rC rfl Tryz.isAgg26 Tryz.sizeOf26 rfl .head rfl (le_37.trans hle2) (fun _ _ h => h) ⟨rfl, ⟨none, 0, lA, lC, none, 0⟩, by rw [e1, e2, ← hll]; rfl, by rw [e1]; exact TreeAt.of (.nil _) hlt (.nil _)⟩
    ·
     exact absurd heq h37
theorem s_fitted {f : Fd} {v : Int} (hP : FitC f.sub v) : FittedC f v := by
 by_cases h : f.kind = 11
 · exact s_fittedL hP h
 · exact s_fittedV hP h
theorem s_fit (fs : List Fd) (v : Int) : FitC fs v := by
 induction hsz : SizeOf.sizeOf fs using Nat.strongRecOn generalizing fs with
 | _ sz ih =>
  refine s_fit0 fun f hf => s_fitted (ih _ ?_ f.sub rfl)
  have h1 := List.sizeOf_lt_of_mem hf
  have h2 : SizeOf.sizeOf f.sub < SizeOf.sizeOf f := by cases f; simp [Fd.sub]; omega
  omega
theorem tr_size {t : Tr} {k : Nat} (hk : k < t.l.length) : SizeOf.sizeOf t.l[k] < SizeOf.sizeOf t := by
 have h1 := List.sizeOf_lt_of_mem (List.getElem_mem hk)
 have h2 : SizeOf.sizeOf t.l < SizeOf.sizeOf t := by cases t; simp [Tr.l]; omega
 omega
theorem s_given (t : Tr) : ∀ {H : Fz} {L : Own} {c : TC} (hT : TreeAt H c t), Fn Tryz.prog 10 [.agg (c.cells t).toArray] H L (fun r H' L' => L = L' ∧ ∃ c', r = .agg (TC.cells c' t).toArray ∧ TreeAt H' c' t) := by
 induction hsz : SizeOf.sizeOf t using Nat.strongRecOn generalizing t with
 | _ sz ih0 =>
 have ih : ∀ x, SizeOf.sizeOf x < SizeOf.sizeOf t → ∀ {H : Fz} {L : Own} {c : TC} (hT : TreeAt H c x), Fn Tryz.prog 10 [.agg (c.cells x).toArray] H L (fun r H' L' => L = L' ∧ ∃ c', r = .agg (TC.cells c' x).toArray ∧ TreeAt H' c' x) := fun x hx => ih0 _ (by omega) x rfl
 intro H L c hT
 refine Fn.mk Tryz.call10 Tryz.func10 rfl Tryz.ntmps10 rfl ?_
 refine sr ?_
 refine bx rfl rfl rfl (fun b_1 => ?_)
 refine al Tryz.zeroValue39 rfl rfl (fun b_2 => ?_)
 refine nl ?_
 refine sr ?_
 refine fa0 F26_0 rfl rfl ?_
 refine ld (Says.own (.tail .head)) Tryz.isAgg2 rfl (Nat.zero_add _).symm rfl rfl ?_
 refine fa0 F26_1 rfl rfl ?_
 refine ld (Says.own (.tail .head)) Tryz.isAgg22 rfl (Nat.zero_add _).symm rfl rfl ?_
 refine fa0 F26_2 rfl rfl ?_
 refine ld (Says.own (.tail .head)) Tryz.isAgg4 rfl (Nat.zero_add _).symm rfl rfl ?_
 refine bd' S39 rfl rfl rfl ?_
 refine al Tryz.zeroValue39 rfl rfl (fun b_3 => ?_)
 refine sa Tryz.sizeOf39 rfl rfl rfl rfl rfl .head ?_
 refine nl ?_
 refine sq ?_
 refine sr ?_
 refine fa0 F26_3 rfl rfl ?_
 refine ld (Says.own (.tail (.tail .head))) Tryz.isAgg23 rfl (Nat.zero_add _).symm rfl rfl ?_
 refine ls Tryz.runUnderlying23 rfl rfl ?_
 refine mv rfl rfl ?_
 refine nl ?_
 refine nilC ?_
 refine capF2 (N := []) (M := _) (fun _ => .head) (fun _ _ => (.tail .head)) (fun F_6 hF_6 => ?_)
 refine fr (t.l.length) (fun k l' H' L' => ∃ N : Chunk, ∃ X0_k : Chunk, ∃ lA m lC es, [(1, .pointer (some ⟨b_1, 0, none⟩)), (2, .pointer (some ⟨b_2, 0, none⟩)), (3, .pointer (some ⟨b_3, 0, none⟩)), (16, .slice c.la t.l.length c.lc), (17, .int .i64 (t.l.length : Int))] = l' ∧ F_6 N X0_k = L' ∧ X0_k = [(b_3, .cells [.int .i64 t.n, .slice c.sa t.s.length c.sc, .bool t.nul, .slice lA m lC, .slice none 0 0].toArray 39 (0, 0))] ∧ Row 39 5 lA m lC ((es : List EE).flatMap f5) N ∧ m = es.length ∧ (∀ p : EE, p ∈ es → TreeAt H' p.1 p.2) ∧ es.map (·.2) = (t.l.take k).map id) [(1, .pointer (some ⟨b_1, 0, none⟩)), (2, .pointer (some ⟨b_2, 0, none⟩)), (3, .pointer (some ⟨b_3, 0, none⟩)), (16, .slice c.la t.l.length c.lc), (17, .int .i64 (t.l.length : Int))] (fun k l' H' L' h => ?_) (by have := hT.l.len; omega) rfl (.of ⟨rfl, rfl, rfl, rfl, rfl, trivial⟩) ⟨[], _, none, 0, 0, [], rfl, rfl, rfl, (Row.nil _ _), rfl, (fun p hp => by cases hp), (by simp)⟩ rfl rfl rfl rfl rfl (fun k l' H' L' hk le_4 hI => ?_) (fun l' H' L' le_5 hI => ?_)
 · obtain ⟨N, X0_k, lA, m, lC, es, rfl, _⟩ := h; exact ⟨rfl, rfl, rfl, rfl⟩
 ·
  obtain ⟨N, X0_k, lA, m, lC, es, rfl, rfl, rfl, pk0, pk1, pk2, pk3⟩ := hI
  rw [hF_6]
  refine sr ?_
  obtain ⟨b_7, o_8, e_9, g_10⟩ := (hT.l.mono le_4).at_ (ne_nil_of_lt hk)
  obtain ⟨c_11, q_12, q_13⟩ := g_10 k hk
  refine ix2 Tryz.runUnderlying23 Tryz.sizeOf26 rfl e_9 rfl rfl hk rfl ?_
  refine la (Says.fz q_12) Tryz.isAgg26 Tryz.sizeOf26 rfl (Nat.add_zero _).symm rfl rfl ?_
  refine al Tryz.zeroValue26 rfl rfl (fun b_14 => ?_)
  refine sa Tryz.sizeOf26 rfl rfl rfl rfl rfl .head ?_
  refine nl ?_
  refine rgD 7 (.keep (.skip (.keep (.keep (.keep .nil))))) mixed ?_
  refine dU 0 rfl rfl rfl (y_fa0 F39_3 rfl) (.keep (.skip (.keep (.keep (.keep .nil))))) ler ?_
  refine dU 1 rfl rfl rfl (y_ld (Says.own (.tail .head)) Tryz.isAgg36 rfl (Nat.zero_add _).symm rfl) (.keep (.skip (.keep (.keep (.keep .nil))))) ler ?_
  refine dU 2 rfl rfl rfl (y_la (Says.own .head) Tryz.isAgg26 Tryz.sizeOf26 rfl (Nat.zero_add _).symm rfl) (.keep (.skip (.keep (.keep (.keep .nil))))) ler ?_
  refine dE 3 (by kernel_rfl) rfl ?_
  refine cl rfl rfl rfl (ih _ (tr_size hk) q_13) rfl (fun v H1 L1 le_15 hR => ?_)
  obtain ⟨rfl, c25, rfl, g25⟩ := hR
  refine dN (.keep (.skip (.keep (.keep (.keep .nil))))) le_15 ?_
  refine dE 4 (by kernel_rfl) rfl ?_
  refine bs' L36 rfl rfl rfl rfl (fun b_16 => ?_)
  refine dN (.skip (.keep (.skip (.keep (.keep (.keep .nil)))))) le_15 ?_
  refine dE 5 (by kernel_rfl) rfl ?_
  have hmk : m = k := by have h1 := congrArg List.length pk3; rw [List.length_map, List.length_map, List.length_take] at h1; omega
  have hbig := hT.l.big; unfold B47 at hbig
  refine ap (news := f5 (c25, id t.l[k])) Tryz.underlying36 I39 rfl rfl pk0 (fun _ => (.tail (.tail .head))) (src_says Tryz.underlying36 rfl (fun _ => Says.own .head) (f5_one _)) (by omega) (by unfold maxLen; omega) rfl (fun a27 c27 N27 r27 z27 => ?_)
  rw [flatMap_snoc'] at r27
  refine dN (.skip (.keep (.skip (.keep (.keep (.keep .nil)))))) le_15 ?_
  refine dU 6 rfl rfl rfl (y_fa0 F39_3 rfl) (.skip (.keep (.skip (.keep (.keep (.keep .nil)))))) le_15 ?_
  refine dE 7 (by kernel_rfl) rfl ?_
  refine st Tryz.sizeOf36 rfl rfl rfl rfl (.tail (.tail (.tail .head))) ?_
  refine dNk (by kernel_rfl) ?_
  refine dD (by kernel_rfl) ?_
  refine Nb ?_
  refine drN .head ?_
  refine drN .head ?_
  refine fun a w hA hw => ⟨_, _, _, hA.sub ?_, (le_4.trans le_15), hw, _, rfl, N27, _, a27, _, c27, (es ++ [(c25, id t.l[k])]), rfl, hF_6 _ _, rfl, r27, (by simp; omega), (fun p hp => (mem_snoc hp).elim (fun h => (pk2 p h).mono le_15) (fun h => h ▸ g25)), (map_take_snoc hk pk3)⟩
  exact (.of ⟨rfl, rfl, rfl, rfl, rfl, rfl, trivial⟩)
 ·
  obtain ⟨N, X0_k, lA, m, lC, es, rfl, rfl, rfl, pk0, pk1, pk2, pk3⟩ := hI
  rw [hF_6]
  refine toWp ?_
  have hm : m = t.l.length := by have h1 := congrArg List.length pk3; rw [List.length_map, List.length_map, List.take_length] at h1; omega
  have hfe : es.map (·.2) = t.l := by rw [pk3, List.take_length, List.map_id]
  have hbig := hT.l.big
  refine frW pk0 .head (fun H2 hle2 hfz => ?_)
  have hlt := TreesAt.row hfz pk1 pk0.le.1 (by omega) (fun p hp => (pk2 p hp).mono hle2)
  rw [hfe] at hlt
  refine sq ?_
  refine sr ?_
  refine fa0 F26_4 rfl rfl ?_
  refine ld (Says.own (.tail (.tail .head))) Tryz.isAgg24 rfl (Nat.zero_add _).symm rfl rfl ?_
  refine ls Tryz.runUnderlying24 rfl rfl ?_
  refine mv rfl rfl ?_
  refine nl ?_
  refine nilC ?_
  refine capF2 (N := []) (M := _) (fun _ => .head) (fun _ _ => (.tail .head)) (fun F_19 hF_19 => ?_)
  refine fr (t.u.length) (fun j l' H' L' => ∃ N : Chunk, ∃ X0_j : Chunk, ∃ ua m2 uc es2, [(2, .pointer (some ⟨b_2, 0, none⟩)), (3, .pointer (some ⟨b_3, 0, none⟩)), (31, .slice c.ua t.u.length c.uc), (32, .int .i64 (t.u.length : Int))] = l' ∧ F_19 N X0_j = L' ∧ X0_j = [(b_3, .cells [.int .i64 t.n, .slice c.sa t.s.length c.sc, .bool t.nul, .slice lA m lC, .slice ua m2 uc].toArray 39 (0, 0))] ∧ Row 65 2 ua m2 uc ((es2 : List TE).flatMap f2) N ∧ m2 = es2.length ∧ (∀ p : TE, p ∈ es2 → TagAt H' p.1 p.2) ∧ es2.map (·.2) = (t.u.take j).map id) [(2, .pointer (some ⟨b_2, 0, none⟩)), (3, .pointer (some ⟨b_3, 0, none⟩)), (31, .slice c.ua t.u.length c.uc), (32, .int .i64 (t.u.length : Int))] (fun j l' H' L' h => ?_) (by have := hT.u.len; omega) rfl (.of ⟨rfl, rfl, rfl, rfl, trivial⟩) ⟨[], _, none, 0, 0, [], rfl, rfl, rfl, (Row.nil _ _), rfl, (fun p hp => by cases hp), (by simp)⟩ rfl rfl rfl rfl rfl (fun j l' H' L' hj le_17 hI => ?_) (fun l' H' L' le_18 hI => ?_)
  · obtain ⟨N, X0_j, ua, m2, uc, es2, rfl, _⟩ := h; exact ⟨rfl, rfl, rfl, rfl⟩
  ·
   obtain ⟨N, X0_j, ua, m2, uc, es2, rfl, rfl, rfl, pj0, pj1, pj2, pj3⟩ := hI
   rw [hF_19]
   refine sr ?_
   obtain ⟨b_20, o_21, e_22, g_23⟩ := (hT.u.mono (le_5.trans (hle2.trans le_17))).at_ (ne_nil_of_lt hj)
   obtain ⟨c_24, q_25, q_26⟩ := g_23 j hj
   refine ix2 Tryz.runUnderlying24 Tryz.sizeOf64 rfl e_22 rfl rfl hj rfl ?_
   refine la (Says.fz q_25) Tryz.isAgg64 Tryz.sizeOf64 rfl (Nat.add_zero _).symm rfl rfl ?_
   have hwt := q_26
   refine al Tryz.zeroValue64 rfl rfl (fun b_27 => ?_)
   refine sa Tryz.sizeOf64 rfl rfl rfl rfl rfl .head ?_
   refine nl ?_
   refine rg ?_
   refine fa0 F39_4 rfl rfl ?_
   refine ld (Says.own (.tail (.tail .head))) Tryz.isAgg37 rfl (Nat.zero_add _).symm rfl rfl ?_
   refine fa0 F64_0 rfl rfl ?_
   refine ld (Says.own .head) Tryz.isAgg62 rfl (Nat.zero_add _).symm rfl rfl ?_
   refine fa0 F64_1 rfl rfl ?_
   refine ld (Says.own .head) Tryz.isAgg22 rfl (Nat.zero_add _).symm rfl rfl ?_
   refine bd' S65 rfl rfl rfl ?_
   refine bs' L37 rfl rfl rfl rfl (fun b_28 => ?_)
   have hmk : m2 = j := by have h1 := congrArg List.length pj3; rw [List.length_map, List.length_map, List.length_take] at h1; omega
   have hbig := hT.u.big; unfold B47 at hbig
   refine ap (news := f2 (c_24, id t.u[j])) Tryz.underlying37 I65 rfl rfl pj0 (fun _ => (.tail (.tail .head))) (src_says Tryz.underlying37 rfl (fun _ => Says.own .head) (f2_one _)) (by omega) (by unfold maxLen; omega) rfl (fun a45 c45 N45 r45 z45 => ?_)
   rw [flatMap_snoc'] at r45
   refine fa0 F39_4 rfl rfl ?_
   refine st Tryz.sizeOf37 rfl rfl rfl rfl (.tail (.tail (.tail .head))) ?_
   refine nN ?_
   refine Nb ?_
   refine drN .head ?_
   refine drN .head ?_
   refine fun a w hA hw => ⟨_, _, _, hA.sub ?_, le_17, hw, _, rfl, N45, _, a45, _, c45, (es2 ++ [(c_24, id t.u[j])]), rfl, hF_19 _ _, rfl, r45, (by simp; omega), (fun p hp => (mem_snoc hp).elim (fun h => pj2 p h) (fun h => h ▸ hwt)), (map_take_snoc hj pj3)⟩
   exact (.of ⟨rfl, rfl, rfl, rfl, rfl, trivial⟩)
  ·
   obtain ⟨N, X0_j, ua, m2, uc, es2, rfl, rfl, rfl, pj0, pj1, pj2, pj3⟩ := hI
   rw [hF_19]
   refine toWp ?_
   have hm2 : m2 = t.u.length := by have h1 := congrArg List.length pj3; rw [List.length_map, List.length_map, List.take_length] at h1; omega
   have hfe2 : es2.map (·.2) = t.u := by rw [pj3, List.take_length, List.map_id]
   have hbig2 := hT.u.big
   refine frW pj0 .head (fun H3 hle3 hfz3 => ?_)
   have hut := TagsAt.row hfz3 pj1 pj0.le.1 (by omega) (fun p hp => (pj2 p hp).mono hle3)
   rw [hfe2] at hut
   refine sr ?_
   refine la (Says.own .head) Tryz.isAgg39 Tryz.sizeOf39 rfl (Nat.zero_add _).symm rfl rfl ?_
   refine sa Tryz.sizeOf39 rfl rfl rfl rfl rfl (.tail .head) ?_
   refine nl ?_
   refine drW .head ?_
   refine drW (.tail .head) ?_
   exact rC rfl Tryz.isAgg39 Tryz.sizeOf39 rfl .head rfl (le_5.trans (hle2.trans (le_18.trans hle3))) (fun _ _ h => h) ⟨rfl, ⟨c.sa, c.sc, lA, lC, ua, uc⟩, by rw [hm, hm2]; rfl, TreeAt.of (hT.s.mono (le_5.trans (hle2.trans (le_18.trans hle3)))) (hlt.mono (le_18.trans hle3)) hut⟩
end Go.Sx

import Derived.Test.YthgkgbaggjongaaGreatDoorSxTab
import Derived.Test.YthgkgbaggjongaaGreatDoorRK2
import Derived.Test.YthgkgbaggjongaaGreatDoorLibI
import Derived.KernelRfl
set_option linter.unusedVariables false
set_option linter.unusedSimpArgs false
set_option maxRecDepth 100000
set_option maxHeartbeats 20000000
namespace Go.Sx
open Go.Proofs
theorem k_boolTree {H : Fz} {L : Own} {p : Bool} :
  Fn Tryz.prog 138 [.bool p] H L (fun v H' L' => H = H' ∧ L = L' ∧ v = .agg (TC.none.cells (.mk (if p then 1 else 0) [] false [] [])).toArray) := by
 refine Fn.mk Tryz.call138 Tryz.func138 rfl Tryz.ntmps138 rfl ?_
 refine sr ?_
 refine al Tryz.zeroValue37 rfl rfl (fun b_1 => ?_)
 refine nl ?_
 refine sq ?_
 refine sr ?_
 refine mv rfl rfl ?_
 refine nl ?_
 refine cb rfl (fun h3 => ?_) (fun h3 => ?_)
 ·
  refine sr ?_
  refine bd' S37 rfl rfl rfl ?_
  refine sa Tryz.sizeOf37 rfl rfl rfl rfl rfl .head ?_
  refine nl ?_
  exact rC rfl Tryz.isAgg37 Tryz.sizeOf37 rfl .head rfl (Fz.le.refl _) (fun _ _ h => h) ⟨rfl, rfl, by rw [h3]; rfl⟩
 ·
  refine skt ?_
  refine sr ?_
  refine bd' S37 rfl rfl rfl ?_
  refine sa Tryz.sizeOf37 rfl rfl rfl rfl rfl .head ?_
  refine nl ?_
  exact rC rfl Tryz.isAgg37 Tryz.sizeOf37 rfl .head rfl (Fz.le.refl _) (fun _ _ h => h) ⟨rfl, rfl, by rw [h3]; rfl⟩
theorem k_textTree {H : Fz} {L : Own} {p : Option Addr} {T : Tr} (hT : TextAt H T p) (hf : Fits T) :
  Fn Tryz.prog 170 [.pointer p] H L (fun v H' L' => L = L' ∧ ∃ c : TC, v = .agg (c.cells (.mk 0 (sT T) T.nul [] [])).toArray ∧ TreeAt H' c (.mk 0 (sT T) T.nul [] [])) := by
 refine Fn.mk Tryz.call170 Tryz.func170 rfl Tryz.ntmps170 rfl ?_
 refine sr ?_
 refine al Tryz.zeroValue37 rfl rfl (fun b_1 => ?_)
 refine nl ?_
 refine sq ?_
 refine sr ?_
 refine mv rfl rfl ?_
 refine epn Tryz.underlying131 rfl rfl ?_
 refine nl ?_
 refine cb rfl (fun h4 => ?_) (fun h4 => ?_)
 ·
  have hnu : T.nul = true := hT.nul.symm.trans h4
  have hs : sT T = [] := by unfold sT; rw [hnu]; rfl
  refine sr ?_
  refine bd' S37 rfl rfl rfl ?_
  refine sa Tryz.sizeOf37 rfl rfl rfl rfl rfl .head ?_
  refine nl ?_
  exact rC rfl Tryz.isAgg37 Tryz.sizeOf37 rfl .head rfl (Fz.le.refl _) (fun _ _ h => h) ⟨rfl, TC.none, by rw [hs, hnu]; rfl, by rw [hs]; exact .of (.nil _) (.nil _) (.nil _)⟩
 ·
  have hnu : T.nul = false := hT.nul.symm.trans h4
  have hs : sT T = T.s := sT_nn hnu
  obtain ⟨ad, rfl⟩ : ∃ ad, p = some ad := by
   cases p with
   | none => cases h4
   | some ad => exact ⟨ad, rfl⟩
  obtain ⟨b, rfl, hb⟩ := hT.val _ rfl
  refine skt ?_
  refine sr ?_
  refine mv rfl rfl ?_
  refine nc rfl rfl ?_
  refine ld (j := 0) (Says.fz hb) Tryz.isAgg9 rfl rfl rfl rfl ?_
  refine csb Tryz.underlying9 Tryz.underlying22 Tryz.underlying5 rfl (by have := hf.s; unfold B47; omega) rfl (fun Hb9 b9 cp9 le_2 hb9 => ?_)
  refine bd' S37 rfl rfl rfl ?_
  refine sa Tryz.sizeOf37 rfl rfl rfl rfl rfl .head ?_
  refine nl ?_
  exact rC rfl Tryz.isAgg37 Tryz.sizeOf37 rfl .head rfl le_2 (fun _ _ h => h) ⟨rfl, ⟨some ⟨b9, 0, none⟩, cp9, none, 0, none, 0⟩, by rw [hs, hnu]; rfl, by rw [hs]; exact .of hb9 (.nil _) (.nil _)⟩
theorem k_sorted {H : Fz} {L : Own} {a : Option Addr} {c : Nat} {us : List (Int × List UInt8)} (hu : TagsAt H a c us) (hr : (us.map (·.1)).Pairwise (· ≤ ·)) :
  Fn Tryz.prog 142 [.slice a us.length c] H L (fun _ H' L' => H = H' ∧ L = L') := by
 have hul := hu.len
 refine Fn.mk Tryz.call142 Tryz.func142 rfl Tryz.ntmps142 rfl ?_
 refine sr ?_
 refine mv rfl rfl ?_
 refine ls Tryz.runUnderlying35 rfl rfl ?_
 refine mv rfl rfl ?_
 refine nl ?_
 refine fr (us.length) (fun k l' H' L' => [(0, .slice a us.length c), (5, .int .i64 (us.length : Int))] = l' ∧ L = L' ∧ H = H') [(0, .slice a us.length c), (5, .int .i64 (us.length : Int))] (fun k l' H' L' h => ?_) (by omega) rfl (.cons rfl (.cons rfl (.nil _))) ⟨rfl, rfl, rfl⟩ rfl rfl rfl rfl rfl (fun k l' H' L' hk le_1 hI => ?_) (fun l' H' L' le_2 hI => ?_)
 · obtain ⟨rfl, _⟩ := h; exact ⟨rfl, rfl, rfl, rfl⟩
 ·
  obtain ⟨rfl, rfl, pk0⟩ := hI
  subst pk0
  refine sr ?_
  refine mv rfl rfl ?_
  refine asg rfl rfl ?_
  refine nl ?_
  refine sr ?_
  refine mv rfl rfl ?_
  refine asg rfl rfl ?_
  refine nl ?_
  refine bl (lp 0 (fun i l' H' L' => [(0, .slice a us.length c), (3, .int .i64 (k : Int)), (5, .int .i64 (us.length : Int)), (6, .int .i64 (k : Int))] = l' ∧ H = H' ∧ L = L') [(0, .slice a us.length c), (3, .int .i64 (k : Int)), (5, .int .i64 (us.length : Int)), (6, .int .i64 (k : Int))] (.cons rfl (.cons rfl (.cons rfl (.cons rfl (.nil _))))) ⟨rfl, rfl, rfl⟩ (fun i l' H' L' hi_ le_3 hI => ?_))
  obtain ⟨rfl, rfl, rfl⟩ := hI
  refine sq ?_
  refine sq ?_
  refine rgD 16 .nil mixed ?_
  refine dT 0 rfl rfl rfl (by kernel_rfl) (fun _ _ _ h => h) (y_mv rfl) .nil (Fz.le.refl _) ?_
  refine dT 1 rfl rfl rfl (by kernel_rfl) (fun _ _ _ h => h) (y_gt rfl rfl) .nil (Fz.le.refl _) ?_
  refine dT 2 rfl rfl rfl (by kernel_rfl) (fun _ _ _ h => h) (y_mv rfl) .nil (Fz.le.refl _) ?_
  refine splH (t := 12) rfl (fun h12 => ?_) (fun h12 => ?_)
  ·
   refine dT 3 rfl rfl rfl (by kernel_rfl) (fun _ _ _ h => h) (y_gr rfl rfl (y_mv rfl)) .nil (Fz.le.refl _) ?_
   refine dT 4 rfl rfl rfl (by kernel_rfl) (fun _ _ _ h => h) (y_gr rfl rfl (y_mv rfl)) .nil (Fz.le.refl _) ?_
   obtain ⟨b_4, o_5, e_6, g_7⟩ := hu.at_ (ne_nil_of_lt hk)
   obtain ⟨c_8, q_9, q_10⟩ := g_7 k hk
   refine dT 5 rfl rfl rfl (by kernel_rfl) (fun _ _ _ h => h) (y_gr rfl rfl (y_ixk (j := k) Tryz.runUnderlying35 Tryz.sizeOf72 rfl e_6 rfl (by omega) hk)) .nil (Fz.le.refl _) ?_
   refine dT 6 rfl rfl rfl (by kernel_rfl) (fun _ _ _ h => h) (y_gr rfl rfl (y_fa F72_0 rfl)) .nil (Fz.le.refl _) ?_
   refine dT 7 rfl rfl rfl (by kernel_rfl) (fun _ _ _ h => h) (y_gr rfl rfl (y_ld (j := 0) (Says.fz q_9) Tryz.isAgg68 rfl (Nat.add_zero _).symm rfl)) .nil (Fz.le.refl _) ?_
   refine dT 8 rfl rfl rfl (by kernel_rfl) (fun _ _ _ h => h) (y_gr rfl rfl (y_mv rfl)) .nil (Fz.le.refl _) ?_
   refine dT 9 rfl rfl rfl (by kernel_rfl) (fun _ _ _ h => h) (y_gr rfl rfl (y_mv rfl)) .nil (Fz.le.refl _) ?_
   have hk1 : k - 1 < us.length := by omega
   refine dT 10 rfl rfl rfl (by kernel_rfl) (fun _ _ _ h => h) (y_gr rfl rfl (y_sb rfl rfl (w64 (by omega) (by omega)))) .nil (Fz.le.refl _) ?_
   obtain ⟨b_11, o_12, e_13, g_14⟩ := hu.at_ (ne_nil_of_lt hk)
   obtain ⟨c_15, q_16, q_17⟩ := g_14 (k - 1) hk1
   refine dT 11 rfl rfl rfl (by kernel_rfl) (fun _ _ _ h => h) (y_gr rfl rfl (y_ixk (j := (k - 1)) Tryz.runUnderlying35 Tryz.sizeOf72 rfl e_13 rfl (by omega) hk1)) .nil (Fz.le.refl _) ?_
   refine dT 12 rfl rfl rfl (by kernel_rfl) (fun _ _ _ h => h) (y_gr rfl rfl (y_fa F72_0 rfl)) .nil (Fz.le.refl _) ?_
   refine dT 13 rfl rfl rfl (by kernel_rfl) (fun _ _ _ h => h) (y_gr rfl rfl (y_ld (j := 0) (Says.fz q_16) Tryz.isAgg68 rfl (Nat.add_zero _).symm rfl)) .nil (Fz.le.refl _) ?_
   refine dT 14 rfl rfl rfl (by kernel_rfl) (fun _ _ _ h => h) (y_gr rfl rfl (y_lt rfl rfl)) .nil (Fz.le.refl _) ?_
   refine dT 15 rfl rfl rfl (by kernel_rfl) (fun _ _ _ h => h) (y_pk rfl rfl rfl) .nil (Fz.le.refl _) ?_
   refine dD (by kernel_rfl) ?_
   refine Nt ?_
   refine cF (by show some (Value.bool (decide _)) = some (.bool false); rw [decide_eq_false (by have := rise_get hr (show k - 1 < k by omega) hk; omega)]) ?_
   refine exX ?_
   refine XT ?_
   refine XT ?_
   refine Xb ?_
   refine Nb ?_
   refine fun a_ w_ hA hw => ⟨_, _, _, hA.sub ?_, le_1, hw, _, rfl, rfl, rfl, rfl⟩
   exact (.cons rfl (.cons rfl (.cons rfl (.nil _))))
  ·
   refine dT 3 rfl rfl rfl (by kernel_rfl) (fun _ _ _ h => h) (y_gs rfl rfl rfl) .nil (Fz.le.refl _) ?_
   refine dT 4 rfl rfl rfl (by kernel_rfl) (fun _ _ _ h => h) (y_gs rfl rfl rfl) .nil (Fz.le.refl _) ?_
   refine dT 5 rfl rfl rfl (by kernel_rfl) (fun _ _ _ h => h) (y_gs rfl rfl rfl) .nil (Fz.le.refl _) ?_
   refine dT 6 rfl rfl rfl (by kernel_rfl) (fun _ _ _ h => h) (y_gs rfl rfl rfl) .nil (Fz.le.refl _) ?_
   refine dT 7 rfl rfl rfl (by kernel_rfl) (fun _ _ _ h => h) (y_gs rfl rfl rfl) .nil (Fz.le.refl _) ?_
   refine dT 8 rfl rfl rfl (by kernel_rfl) (fun _ _ _ h => h) (y_gs rfl rfl rfl) .nil (Fz.le.refl _) ?_
   refine dT 9 rfl rfl rfl (by kernel_rfl) (fun _ _ _ h => h) (y_gs rfl rfl rfl) .nil (Fz.le.refl _) ?_
   refine dT 10 rfl rfl rfl (by kernel_rfl) (fun _ _ _ h => h) (y_gs rfl rfl rfl) .nil (Fz.le.refl _) ?_
   refine dT 11 rfl rfl rfl (by kernel_rfl) (fun _ _ _ h => h) (y_gs rfl rfl rfl) .nil (Fz.le.refl _) ?_
   refine dT 12 rfl rfl rfl (by kernel_rfl) (fun _ _ _ h => h) (y_gs rfl rfl rfl) .nil (Fz.le.refl _) ?_
   refine dT 13 rfl rfl rfl (by kernel_rfl) (fun _ _ _ h => h) (y_gs rfl rfl rfl) .nil (Fz.le.refl _) ?_
   refine dT 14 rfl rfl rfl (by kernel_rfl) (fun _ _ _ h => h) (y_gs rfl rfl rfl) .nil (Fz.le.refl _) ?_
   refine dT 15 rfl rfl rfl (by kernel_rfl) (fun _ _ _ h => h) (y_pk rfl rfl rfl) .nil (Fz.le.refl _) ?_
   refine dD (by kernel_rfl) ?_
   refine Nt ?_
   refine cF (by rfl) ?_
   refine exX ?_
   refine XT ?_
   refine XT ?_
   refine Xb ?_
   refine Nb ?_
   refine fun a_ w_ hA hw => ⟨_, _, _, hA.sub ?_, le_1, hw, _, rfl, rfl, rfl, rfl⟩
   exact (.cons rfl (.cons rfl (.cons rfl (.nil _))))
 ·
  obtain ⟨rfl, rfl, pk0⟩ := hI
  refine toNn ?_
  subst pk0
  exact fun _ _ hA hw => rn rfl le_2 ⟨rfl, rfl⟩ hA hw
theorem tc_141 {H : Fz} {L : Own} {tb : Nat} {c0 c1 c2 c3 : Value} {a va : Option Addr} {m cap vc : Nat} {xs : List Value} {k : Int} {x : List UInt8} {N : Chunk} (hr : Row 72 2 a m cap xs N) (hm : m ≤ 1000000000000) (hx : BytesAt H va vc x) (hxl : x.length ≤ 1000000000000) (h0 : 0 ≤ k) (h1 : k < 4294967296) :
  Fn Tryz.prog 141 [.int .u32 k, .slice va x.length vc, .pointer (some ⟨tb, 0, none⟩)] H ([(tb, .cells [c0, c1, c2, c3, .slice a m cap].toArray 37 (0, 0))] :: N :: L) (fun _ H' L' => ∃ a' cap' N' g, L' = [(tb, .cells [c0, c1, c2, c3, .slice a' (m + 1) cap'].toArray 37 (0, 0))] :: N' :: L ∧ Row 72 2 a' (m + 1) cap' (xs ++ gcf (g, (k, x))) N' ∧ TagAt H' g (k, x)) := by
 refine Fn.mk Tryz.call141 Tryz.func141 rfl Tryz.ntmps141 rfl ?_
 refine rgD 9 (.keep .nil) mixed ?_
 refine dT 0 rfl rfl rfl (by kernel_rfl) (fun _ _ _ h => h) (y_fa0 F37_4 rfl) (.keep .nil) (Fz.le.refl _) ?_
 refine dT 1 rfl rfl rfl (by kernel_rfl) (fun _ _ _ h => h) (y_ld (Says.own .head) Tryz.isAgg35 rfl (Nat.zero_add _).symm rfl) (.keep .nil) (Fz.le.refl _) ?_
 refine dT 2 rfl rfl rfl (by kernel_rfl) (fun _ _ _ h => h) (y_mv rfl) (.keep .nil) (Fz.le.refl _) ?_
 refine dT 3 rfl rfl rfl (by kernel_rfl) (fun _ _ _ h => h) (y_mv rfl) (.keep .nil) (Fz.le.refl _) ?_
 refine dE 4 (by kernel_rfl) rfl ?_
 have hbd9 : x.length ≤ 1000000000000 := hxl
 refine apn (news := bytesOf x) Tryz.underlying22 I5 rfl rfl (src_bytes Tryz.underlying22 hx rfl) (by omega) (by unfold maxLen; omega) rfl (fun a9 c9 N9 r9 => ?_)
 refine frL r9 .head (fun H2 hle2 hz => ?_)
 have hbq := BytesAt.row hz r9 (by unfold B47; omega)
 refine dN (.keep .nil) hle2 ?_
 refine dT 5 rfl rfl rfl (by kernel_rfl) (fun _ _ _ h => h) (y_bd S72 rfl rfl) (.keep .nil) hle2 ?_
 refine dE 6 (by kernel_rfl) rfl ?_
 refine bs' L35 rfl rfl rfl rfl (fun b_1 => ?_)
 refine dN (.skip (.keep .nil)) hle2 ?_
 refine dE 7 (by kernel_rfl) rfl ?_
 refine ap (k := 1) (news := gcf ((⟨a9, c9⟩ : GC), (k, x))) Tryz.underlying35 I72 rfl rfl hr (fun _ => (.tail (.tail .head))) (src_says Tryz.underlying35 rfl (fun _ => Says.own .head) (gcf_one _)) (by omega) (by unfold maxLen; omega) rfl (fun a12 c12 N12 r12 z12 => ?_)
 refine dN (.skip (.keep .nil)) hle2 ?_
 refine dT 8 rfl rfl rfl (by kernel_rfl) (fun _ _ _ h => h) (y_fa0 F37_4 rfl) (.skip (.keep .nil)) hle2 ?_
 refine dE 9 (by kernel_rfl) rfl ?_
 refine st Tryz.sizeOf35 rfl rfl rfl rfl (.tail .head) ?_
 refine dNk (by kernel_rfl) ?_
 refine dD (by kernel_rfl) ?_
 refine drN .head ?_
 exact fun _ _ hA hw => rn rfl hle2 ⟨_, _, _, ⟨a9, c9⟩, rfl, r12, ⟨hbq, h0, h1⟩⟩ hA hw
theorem tc_154 {H : Fz} {L : Own} {tb : Nat} {c0 c1 c2 c3 : Value} {a va : Option Addr} {m cap vc : Nat} {xs : List Value} {k : Int} {x : List UInt8} {N : Chunk} (hr : Row 72 2 a m cap xs N) (hm : m ≤ 1000000000000) (hx : BytesAt H va vc x) (hxl : x.length ≤ 1000000000000) (h0 : 0 ≤ k) (h1 : k < 4294967296) :
  Fn Tryz.prog 154 [.int .u32 k, .slice va x.length vc, .pointer (some ⟨tb, 0, none⟩)] H ([(tb, .cells [c0, c1, c2, c3, .slice a m cap].toArray 37 (0, 0))] :: N :: L) (fun _ H' L' => ∃ a' cap' N' g, L' = [(tb, .cells [c0, c1, c2, c3, .slice a' (m + 1) cap'].toArray 37 (0, 0))] :: N' :: L ∧ Row 72 2 a' (m + 1) cap' (xs ++ gcf (g, (k, x))) N' ∧ TagAt H' g (k, x)) := by
 refine Fn.mk Tryz.call154 Tryz.func154 rfl Tryz.ntmps154 rfl ?_
 refine rgD 9 (.keep .nil) mixed ?_
 refine dT 0 rfl rfl rfl (by kernel_rfl) (fun _ _ _ h => h) (y_fa0 F37_4 rfl) (.keep .nil) (Fz.le.refl _) ?_
 refine dT 1 rfl rfl rfl (by kernel_rfl) (fun _ _ _ h => h) (y_ld (Says.own .head) Tryz.isAgg35 rfl (Nat.zero_add _).symm rfl) (.keep .nil) (Fz.le.refl _) ?_
 refine dT 2 rfl rfl rfl (by kernel_rfl) (fun _ _ _ h => h) (y_mv rfl) (.keep .nil) (Fz.le.refl _) ?_
 refine dT 3 rfl rfl rfl (by kernel_rfl) (fun _ _ _ h => h) (y_mv rfl) (.keep .nil) (Fz.le.refl _) ?_
 refine dE 4 (by kernel_rfl) rfl ?_
 have hbd9 : x.length ≤ 1000000000000 := hxl
 refine apn (news := bytesOf x) Tryz.underlying22 I5 rfl rfl (src_bytes Tryz.underlying22 hx rfl) (by omega) (by unfold maxLen; omega) rfl (fun a9 c9 N9 r9 => ?_)
 refine frL r9 .head (fun H2 hle2 hz => ?_)
 have hbq := BytesAt.row hz r9 (by unfold B47; omega)
 refine dN (.keep .nil) hle2 ?_
 refine dT 5 rfl rfl rfl (by kernel_rfl) (fun _ _ _ h => h) (y_bd S72 rfl rfl) (.keep .nil) hle2 ?_
 refine dE 6 (by kernel_rfl) rfl ?_
 refine bs' L35 rfl rfl rfl rfl (fun b_1 => ?_)
 refine dN (.skip (.keep .nil)) hle2 ?_
 refine dE 7 (by kernel_rfl) rfl ?_
 refine ap (k := 1) (news := gcf ((⟨a9, c9⟩ : GC), (k, x))) Tryz.underlying35 I72 rfl rfl hr (fun _ => (.tail (.tail .head))) (src_says Tryz.underlying35 rfl (fun _ => Says.own .head) (gcf_one _)) (by omega) (by unfold maxLen; omega) rfl (fun a12 c12 N12 r12 z12 => ?_)
 refine dN (.skip (.keep .nil)) hle2 ?_
 refine dT 8 rfl rfl rfl (by kernel_rfl) (fun _ _ _ h => h) (y_fa0 F37_4 rfl) (.skip (.keep .nil)) hle2 ?_
 refine dE 9 (by kernel_rfl) rfl ?_
 refine st Tryz.sizeOf35 rfl rfl rfl rfl (.tail .head) ?_
 refine dNk (by kernel_rfl) ?_
 refine dD (by kernel_rfl) ?_
 refine drN .head ?_
 exact fun _ _ hA hw => rn rfl hle2 ⟨_, _, _, ⟨a9, c9⟩, rfl, r12, ⟨hbq, h0, h1⟩⟩ hA hw
theorem tc_161 {H : Fz} {L : Own} {tb : Nat} {c0 c1 c2 c3 : Value} {a va : Option Addr} {m cap vc : Nat} {xs : List Value} {k : Int} {x : List UInt8} {N : Chunk} (hr : Row 72 2 a m cap xs N) (hm : m ≤ 1000000000000) (hx : BytesAt H va vc x) (hxl : x.length ≤ 1000000000000) (h0 : 0 ≤ k) (h1 : k < 4294967296) :
  Fn Tryz.prog 161 [.int .u32 k, .slice va x.length vc, .pointer (some ⟨tb, 0, none⟩)] H ([(tb, .cells [c0, c1, c2, c3, .slice a m cap].toArray 37 (0, 0))] :: N :: L) (fun _ H' L' => ∃ a' cap' N' g, L' = [(tb, .cells [c0, c1, c2, c3, .slice a' (m + 1) cap'].toArray 37 (0, 0))] :: N' :: L ∧ Row 72 2 a' (m + 1) cap' (xs ++ gcf (g, (k, x))) N' ∧ TagAt H' g (k, x)) := by
 refine Fn.mk Tryz.call161 Tryz.func161 rfl Tryz.ntmps161 rfl ?_
 refine rgD 9 (.keep .nil) mixed ?_
 refine dT 0 rfl rfl rfl (by kernel_rfl) (fun _ _ _ h => h) (y_fa0 F37_4 rfl) (.keep .nil) (Fz.le.refl _) ?_
 refine dT 1 rfl rfl rfl (by kernel_rfl) (fun _ _ _ h => h) (y_ld (Says.own .head) Tryz.isAgg35 rfl (Nat.zero_add _).symm rfl) (.keep .nil) (Fz.le.refl _) ?_
 refine dT 2 rfl rfl rfl (by kernel_rfl) (fun _ _ _ h => h) (y_mv rfl) (.keep .nil) (Fz.le.refl _) ?_
 refine dT 3 rfl rfl rfl (by kernel_rfl) (fun _ _ _ h => h) (y_mv rfl) (.keep .nil) (Fz.le.refl _) ?_
 refine dE 4 (by kernel_rfl) rfl ?_
 have hbd9 : x.length ≤ 1000000000000 := hxl
 refine apn (news := bytesOf x) Tryz.underlying22 I5 rfl rfl (src_bytes Tryz.underlying22 hx rfl) (by omega) (by unfold maxLen; omega) rfl (fun a9 c9 N9 r9 => ?_)
 refine frL r9 .head (fun H2 hle2 hz => ?_)
 have hbq := BytesAt.row hz r9 (by unfold B47; omega)
 refine dN (.keep .nil) hle2 ?_
 refine dT 5 rfl rfl rfl (by kernel_rfl) (fun _ _ _ h => h) (y_bd S72 rfl rfl) (.keep .nil) hle2 ?_
 refine dE 6 (by kernel_rfl) rfl ?_
 refine bs' L35 rfl rfl rfl rfl (fun b_1 => ?_)
 refine dN (.skip (.keep .nil)) hle2 ?_
 refine dE 7 (by kernel_rfl) rfl ?_
 refine ap (k := 1) (news := gcf ((⟨a9, c9⟩ : GC), (k, x))) Tryz.underlying35 I72 rfl rfl hr (fun _ => (.tail (.tail .head))) (src_says Tryz.underlying35 rfl (fun _ => Says.own .head) (gcf_one _)) (by omega) (by unfold maxLen; omega) rfl (fun a12 c12 N12 r12 z12 => ?_)
 refine dN (.skip (.keep .nil)) hle2 ?_
 refine dT 8 rfl rfl rfl (by kernel_rfl) (fun _ _ _ h => h) (y_fa0 F37_4 rfl) (.skip (.keep .nil)) hle2 ?_
 refine dE 9 (by kernel_rfl) rfl ?_
 refine st Tryz.sizeOf35 rfl rfl rfl rfl (.tail .head) ?_
 refine dNk (by kernel_rfl) ?_
 refine dD (by kernel_rfl) ?_
 refine drN .head ?_
 exact fun _ _ hA hw => rn rfl hle2 ⟨_, _, _, ⟨a9, c9⟩, rfl, r12, ⟨hbq, h0, h1⟩⟩ hA hw
theorem tc_166 {H : Fz} {L : Own} {tb : Nat} {c0 c1 c2 c3 : Value} {a va : Option Addr} {m cap vc : Nat} {xs : List Value} {k : Int} {x : List UInt8} {N : Chunk} (hr : Row 72 2 a m cap xs N) (hm : m ≤ 1000000000000) (hx : BytesAt H va vc x) (hxl : x.length ≤ 1000000000000) (h0 : 0 ≤ k) (h1 : k < 4294967296) :
  Fn Tryz.prog 166 [.int .u32 k, .slice va x.length vc, .pointer (some ⟨tb, 0, none⟩)] H ([(tb, .cells [c0, c1, c2, c3, .slice a m cap].toArray 37 (0, 0))] :: N :: L) (fun _ H' L' => ∃ a' cap' N' g, L' = [(tb, .cells [c0, c1, c2, c3, .slice a' (m + 1) cap'].toArray 37 (0, 0))] :: N' :: L ∧ Row 72 2 a' (m + 1) cap' (xs ++ gcf (g, (k, x))) N' ∧ TagAt H' g (k, x)) := by
 refine Fn.mk Tryz.call166 Tryz.func166 rfl Tryz.ntmps166 rfl ?_
 refine rgD 9 (.keep .nil) mixed ?_
 refine dT 0 rfl rfl rfl (by kernel_rfl) (fun _ _ _ h => h) (y_fa0 F37_4 rfl) (.keep .nil) (Fz.le.refl _) ?_
 refine dT 1 rfl rfl rfl (by kernel_rfl) (fun _ _ _ h => h) (y_ld (Says.own .head) Tryz.isAgg35 rfl (Nat.zero_add _).symm rfl) (.keep .nil) (Fz.le.refl _) ?_
 refine dT 2 rfl rfl rfl (by kernel_rfl) (fun _ _ _ h => h) (y_mv rfl) (.keep .nil) (Fz.le.refl _) ?_
 refine dT 3 rfl rfl rfl (by kernel_rfl) (fun _ _ _ h => h) (y_mv rfl) (.keep .nil) (Fz.le.refl _) ?_
 refine dE 4 (by kernel_rfl) rfl ?_
 have hbd9 : x.length ≤ 1000000000000 := hxl
 refine apn (news := bytesOf x) Tryz.underlying22 I5 rfl rfl (src_bytes Tryz.underlying22 hx rfl) (by omega) (by unfold maxLen; omega) rfl (fun a9 c9 N9 r9 => ?_)
 refine frL r9 .head (fun H2 hle2 hz => ?_)
 have hbq := BytesAt.row hz r9 (by unfold B47; omega)
 refine dN (.keep .nil) hle2 ?_
 refine dT 5 rfl rfl rfl (by kernel_rfl) (fun _ _ _ h => h) (y_bd S72 rfl rfl) (.keep .nil) hle2 ?_
 refine dE 6 (by kernel_rfl) rfl ?_
 refine bs' L35 rfl rfl rfl rfl (fun b_1 => ?_)
 refine dN (.skip (.keep .nil)) hle2 ?_
 refine dE 7 (by kernel_rfl) rfl ?_
 refine ap (k := 1) (news := gcf ((⟨a9, c9⟩ : GC), (k, x))) Tryz.underlying35 I72 rfl rfl hr (fun _ => (.tail (.tail .head))) (src_says Tryz.underlying35 rfl (fun _ => Says.own .head) (gcf_one _)) (by omega) (by unfold maxLen; omega) rfl (fun a12 c12 N12 r12 z12 => ?_)
 refine dN (.skip (.keep .nil)) hle2 ?_
 refine dT 8 rfl rfl rfl (by kernel_rfl) (fun _ _ _ h => h) (y_fa0 F37_4 rfl) (.skip (.keep .nil)) hle2 ?_
 refine dE 9 (by kernel_rfl) rfl ?_
 refine st Tryz.sizeOf35 rfl rfl rfl rfl (.tail .head) ?_
 refine dNk (by kernel_rfl) ?_
 refine dD (by kernel_rfl) ?_
 refine drN .head ?_
 exact fun _ _ hA hw => rn rfl hle2 ⟨_, _, _, ⟨a9, c9⟩, rfl, r12, ⟨hbq, h0, h1⟩⟩ hA hw
theorem tc_173 {H : Fz} {L : Own} {tb : Nat} {c0 c1 c2 c3 : Value} {a va : Option Addr} {m cap vc : Nat} {xs : List Value} {k : Int} {x : List UInt8} {N : Chunk} (hr : Row 72 2 a m cap xs N) (hm : m ≤ 1000000000000) (hx : BytesAt H va vc x) (hxl : x.length ≤ 1000000000000) (h0 : 0 ≤ k) (h1 : k < 4294967296) :
  Fn Tryz.prog 173 [.int .u32 k, .slice va x.length vc, .pointer (some ⟨tb, 0, none⟩)] H ([(tb, .cells [c0, c1, c2, c3, .slice a m cap].toArray 37 (0, 0))] :: N :: L) (fun _ H' L' => ∃ a' cap' N' g, L' = [(tb, .cells [c0, c1, c2, c3, .slice a' (m + 1) cap'].toArray 37 (0, 0))] :: N' :: L ∧ Row 72 2 a' (m + 1) cap' (xs ++ gcf (g, (k, x))) N' ∧ TagAt H' g (k, x)) := by
 refine Fn.mk Tryz.call173 Tryz.func173 rfl Tryz.ntmps173 rfl ?_
 refine rgD 9 (.keep .nil) mixed ?_
 refine dT 0 rfl rfl rfl (by kernel_rfl) (fun _ _ _ h => h) (y_fa0 F37_4 rfl) (.keep .nil) (Fz.le.refl _) ?_
 refine dT 1 rfl rfl rfl (by kernel_rfl) (fun _ _ _ h => h) (y_ld (Says.own .head) Tryz.isAgg35 rfl (Nat.zero_add _).symm rfl) (.keep .nil) (Fz.le.refl _) ?_
 refine dT 2 rfl rfl rfl (by kernel_rfl) (fun _ _ _ h => h) (y_mv rfl) (.keep .nil) (Fz.le.refl _) ?_
 refine dT 3 rfl rfl rfl (by kernel_rfl) (fun _ _ _ h => h) (y_mv rfl) (.keep .nil) (Fz.le.refl _) ?_
 refine dE 4 (by kernel_rfl) rfl ?_
 have hbd9 : x.length ≤ 1000000000000 := hxl
 refine apn (news := bytesOf x) Tryz.underlying22 I5 rfl rfl (src_bytes Tryz.underlying22 hx rfl) (by omega) (by unfold maxLen; omega) rfl (fun a9 c9 N9 r9 => ?_)
 refine frL r9 .head (fun H2 hle2 hz => ?_)
 have hbq := BytesAt.row hz r9 (by unfold B47; omega)
 refine dN (.keep .nil) hle2 ?_
 refine dT 5 rfl rfl rfl (by kernel_rfl) (fun _ _ _ h => h) (y_bd S72 rfl rfl) (.keep .nil) hle2 ?_
 refine dE 6 (by kernel_rfl) rfl ?_
 refine bs' L35 rfl rfl rfl rfl (fun b_1 => ?_)
 refine dN (.skip (.keep .nil)) hle2 ?_
 refine dE 7 (by kernel_rfl) rfl ?_
 refine ap (k := 1) (news := gcf ((⟨a9, c9⟩ : GC), (k, x))) Tryz.underlying35 I72 rfl rfl hr (fun _ => (.tail (.tail .head))) (src_says Tryz.underlying35 rfl (fun _ => Says.own .head) (gcf_one _)) (by omega) (by unfold maxLen; omega) rfl (fun a12 c12 N12 r12 z12 => ?_)
 refine dN (.skip (.keep .nil)) hle2 ?_
 refine dT 8 rfl rfl rfl (by kernel_rfl) (fun _ _ _ h => h) (y_fa0 F37_4 rfl) (.skip (.keep .nil)) hle2 ?_
 refine dE 9 (by kernel_rfl) rfl ?_
 refine st Tryz.sizeOf35 rfl rfl rfl rfl (.tail .head) ?_
 refine dNk (by kernel_rfl) ?_
 refine dD (by kernel_rfl) ?_
 refine drN .head ?_
 exact fun _ _ hA hw => rn rfl hle2 ⟨_, _, _, ⟨a9, c9⟩, rfl, r12, ⟨hbq, h0, h1⟩⟩ hA hw
theorem tc_179 {H : Fz} {L : Own} {tb : Nat} {c0 c1 c2 c3 : Value} {a va : Option Addr} {m cap vc : Nat} {xs : List Value} {k : Int} {x : List UInt8} {N : Chunk} (hr : Row 72 2 a m cap xs N) (hm : m ≤ 1000000000000) (hx : BytesAt H va vc x) (hxl : x.length ≤ 1000000000000) (h0 : 0 ≤ k) (h1 : k < 4294967296) :
  Fn Tryz.prog 179 [.int .u32 k, .slice va x.length vc, .pointer (some ⟨tb, 0, none⟩)] H ([(tb, .cells [c0, c1, c2, c3, .slice a m cap].toArray 37 (0, 0))] :: N :: L) (fun _ H' L' => ∃ a' cap' N' g, L' = [(tb, .cells [c0, c1, c2, c3, .slice a' (m + 1) cap'].toArray 37 (0, 0))] :: N' :: L ∧ Row 72 2 a' (m + 1) cap' (xs ++ gcf (g, (k, x))) N' ∧ TagAt H' g (k, x)) := by
 refine Fn.mk Tryz.call179 Tryz.func179 rfl Tryz.ntmps179 rfl ?_
 refine rgD 9 (.keep .nil) mixed ?_
 refine dT 0 rfl rfl rfl (by kernel_rfl) (fun _ _ _ h => h) (y_fa0 F37_4 rfl) (.keep .nil) (Fz.le.refl _) ?_
 refine dT 1 rfl rfl rfl (by kernel_rfl) (fun _ _ _ h => h) (y_ld (Says.own .head) Tryz.isAgg35 rfl (Nat.zero_add _).symm rfl) (.keep .nil) (Fz.le.refl _) ?_
 refine dT 2 rfl rfl rfl (by kernel_rfl) (fun _ _ _ h => h) (y_mv rfl) (.keep .nil) (Fz.le.refl _) ?_
 refine dT 3 rfl rfl rfl (by kernel_rfl) (fun _ _ _ h => h) (y_mv rfl) (.keep .nil) (Fz.le.refl _) ?_
 refine dE 4 (by kernel_rfl) rfl ?_
 have hbd9 : x.length ≤ 1000000000000 := hxl
 refine apn (news := bytesOf x) Tryz.underlying22 I5 rfl rfl (src_bytes Tryz.underlying22 hx rfl) (by omega) (by unfold maxLen; omega) rfl (fun a9 c9 N9 r9 => ?_)
 refine frL r9 .head (fun H2 hle2 hz => ?_)
 have hbq := BytesAt.row hz r9 (by unfold B47; omega)
 refine dN (.keep .nil) hle2 ?_
 refine dT 5 rfl rfl rfl (by kernel_rfl) (fun _ _ _ h => h) (y_bd S72 rfl rfl) (.keep .nil) hle2 ?_
 refine dE 6 (by kernel_rfl) rfl ?_
 refine bs' L35 rfl rfl rfl rfl (fun b_1 => ?_)
 refine dN (.skip (.keep .nil)) hle2 ?_
 refine dE 7 (by kernel_rfl) rfl ?_
 refine ap (k := 1) (news := gcf ((⟨a9, c9⟩ : GC), (k, x))) Tryz.underlying35 I72 rfl rfl hr (fun _ => (.tail (.tail .head))) (src_says Tryz.underlying35 rfl (fun _ => Says.own .head) (gcf_one _)) (by omega) (by unfold maxLen; omega) rfl (fun a12 c12 N12 r12 z12 => ?_)
 refine dN (.skip (.keep .nil)) hle2 ?_
 refine dT 8 rfl rfl rfl (by kernel_rfl) (fun _ _ _ h => h) (y_fa0 F37_4 rfl) (.skip (.keep .nil)) hle2 ?_
 refine dE 9 (by kernel_rfl) rfl ?_
 refine st Tryz.sizeOf35 rfl rfl rfl rfl (.tail .head) ?_
 refine dNk (by kernel_rfl) ?_
 refine dD (by kernel_rfl) ?_
 refine drN .head ?_
 exact fun _ _ hA hw => rn rfl hle2 ⟨_, _, _, ⟨a9, c9⟩, rfl, r12, ⟨hbq, h0, h1⟩⟩ hA hw
theorem tc_184 {H : Fz} {L : Own} {tb : Nat} {c0 c1 c2 c3 : Value} {a va : Option Addr} {m cap vc : Nat} {xs : List Value} {k : Int} {x : List UInt8} {N : Chunk} (hr : Row 72 2 a m cap xs N) (hm : m ≤ 1000000000000) (hx : BytesAt H va vc x) (hxl : x.length ≤ 1000000000000) (h0 : 0 ≤ k) (h1 : k < 4294967296) :
  Fn Tryz.prog 184 [.int .u32 k, .slice va x.length vc, .pointer (some ⟨tb, 0, none⟩)] H ([(tb, .cells [c0, c1, c2, c3, .slice a m cap].toArray 37 (0, 0))] :: N :: L) (fun _ H' L' => ∃ a' cap' N' g, L' = [(tb, .cells [c0, c1, c2, c3, .slice a' (m + 1) cap'].toArray 37 (0, 0))] :: N' :: L ∧ Row 72 2 a' (m + 1) cap' (xs ++ gcf (g, (k, x))) N' ∧ TagAt H' g (k, x)) := by
 refine Fn.mk Tryz.call184 Tryz.func184 rfl Tryz.ntmps184 rfl ?_
 refine rgD 9 (.keep .nil) mixed ?_
 refine dT 0 rfl rfl rfl (by kernel_rfl) (fun _ _ _ h => h) (y_fa0 F37_4 rfl) (.keep .nil) (Fz.le.refl _) ?_
 refine dT 1 rfl rfl rfl (by kernel_rfl) (fun _ _ _ h => h) (y_ld (Says.own .head) Tryz.isAgg35 rfl (Nat.zero_add _).symm rfl) (.keep .nil) (Fz.le.refl _) ?_
 refine dT 2 rfl rfl rfl (by kernel_rfl) (fun _ _ _ h => h) (y_mv rfl) (.keep .nil) (Fz.le.refl _) ?_
 refine dT 3 rfl rfl rfl (by kernel_rfl) (fun _ _ _ h => h) (y_mv rfl) (.keep .nil) (Fz.le.refl _) ?_
 refine dE 4 (by kernel_rfl) rfl ?_
 have hbd9 : x.length ≤ 1000000000000 := hxl
 refine apn (news := bytesOf x) Tryz.underlying22 I5 rfl rfl (src_bytes Tryz.underlying22 hx rfl) (by omega) (by unfold maxLen; omega) rfl (fun a9 c9 N9 r9 => ?_)
 refine frL r9 .head (fun H2 hle2 hz => ?_)
 have hbq := BytesAt.row hz r9 (by unfold B47; omega)
 refine dN (.keep .nil) hle2 ?_
 refine dT 5 rfl rfl rfl (by kernel_rfl) (fun _ _ _ h => h) (y_bd S72 rfl rfl) (.keep .nil) hle2 ?_
 refine dE 6 (by kernel_rfl) rfl ?_
 refine bs' L35 rfl rfl rfl rfl (fun b_1 => ?_)
 refine dN (.skip (.keep .nil)) hle2 ?_
 refine dE 7 (by kernel_rfl) rfl ?_
 refine ap (k := 1) (news := gcf ((⟨a9, c9⟩ : GC), (k, x))) Tryz.underlying35 I72 rfl rfl hr (fun _ => (.tail (.tail .head))) (src_says Tryz.underlying35 rfl (fun _ => Says.own .head) (gcf_one _)) (by omega) (by unfold maxLen; omega) rfl (fun a12 c12 N12 r12 z12 => ?_)
 refine dN (.skip (.keep .nil)) hle2 ?_
 refine dT 8 rfl rfl rfl (by kernel_rfl) (fun _ _ _ h => h) (y_fa0 F37_4 rfl) (.skip (.keep .nil)) hle2 ?_
 refine dE 9 (by kernel_rfl) rfl ?_
 refine st Tryz.sizeOf35 rfl rfl rfl rfl (.tail .head) ?_
 refine dNk (by kernel_rfl) ?_
 refine dD (by kernel_rfl) ?_
 refine drN .head ?_
 exact fun _ _ hA hw => rn rfl hle2 ⟨_, _, _, ⟨a9, c9⟩, rfl, r12, ⟨hbq, h0, h1⟩⟩ hA hw
theorem tc_188 {H : Fz} {L : Own} {tb : Nat} {c0 c1 c2 c3 : Value} {a va : Option Addr} {m cap vc : Nat} {xs : List Value} {k : Int} {x : List UInt8} {N : Chunk} (hr : Row 72 2 a m cap xs N) (hm : m ≤ 1000000000000) (hx : BytesAt H va vc x) (hxl : x.length ≤ 1000000000000) (h0 : 0 ≤ k) (h1 : k < 4294967296) :
  Fn Tryz.prog 188 [.int .u32 k, .slice va x.length vc, .pointer (some ⟨tb, 0, none⟩)] H ([(tb, .cells [c0, c1, c2, c3, .slice a m cap].toArray 37 (0, 0))] :: N :: L) (fun _ H' L' => ∃ a' cap' N' g, L' = [(tb, .cells [c0, c1, c2, c3, .slice a' (m + 1) cap'].toArray 37 (0, 0))] :: N' :: L ∧ Row 72 2 a' (m + 1) cap' (xs ++ gcf (g, (k, x))) N' ∧ TagAt H' g (k, x)) := by
 refine Fn.mk Tryz.call188 Tryz.func188 rfl Tryz.ntmps188 rfl ?_
 refine rgD 9 (.keep .nil) mixed ?_
 refine dT 0 rfl rfl rfl (by kernel_rfl) (fun _ _ _ h => h) (y_fa0 F37_4 rfl) (.keep .nil) (Fz.le.refl _) ?_
 refine dT 1 rfl rfl rfl (by kernel_rfl) (fun _ _ _ h => h) (y_ld (Says.own .head) Tryz.isAgg35 rfl (Nat.zero_add _).symm rfl) (.keep .nil) (Fz.le.refl _) ?_
 refine dT 2 rfl rfl rfl (by kernel_rfl) (fun _ _ _ h => h) (y_mv rfl) (.keep .nil) (Fz.le.refl _) ?_
 refine dT 3 rfl rfl rfl (by kernel_rfl) (fun _ _ _ h => h) (y_mv rfl) (.keep .nil) (Fz.le.refl _) ?_
 refine dE 4 (by kernel_rfl) rfl ?_
 have hbd9 : x.length ≤ 1000000000000 := hxl
 refine apn (news := bytesOf x) Tryz.underlying22 I5 rfl rfl (src_bytes Tryz.underlying22 hx rfl) (by omega) (by unfold maxLen; omega) rfl (fun a9 c9 N9 r9 => ?_)
 refine frL r9 .head (fun H2 hle2 hz => ?_)
 have hbq := BytesAt.row hz r9 (by unfold B47; omega)
 refine dN (.keep .nil) hle2 ?_
 refine dT 5 rfl rfl rfl (by kernel_rfl) (fun _ _ _ h => h) (y_bd S72 rfl rfl) (.keep .nil) hle2 ?_
 refine dE 6 (by kernel_rfl) rfl ?_
 refine bs' L35 rfl rfl rfl rfl (fun b_1 => ?_)
 refine dN (.skip (.keep .nil)) hle2 ?_
 refine dE 7 (by kernel_rfl) rfl ?_
 refine ap (k := 1) (news := gcf ((⟨a9, c9⟩ : GC), (k, x))) Tryz.underlying35 I72 rfl rfl hr (fun _ => (.tail (.tail .head))) (src_says Tryz.underlying35 rfl (fun _ => Says.own .head) (gcf_one _)) (by omega) (by unfold maxLen; omega) rfl (fun a12 c12 N12 r12 z12 => ?_)
 refine dN (.skip (.keep .nil)) hle2 ?_
 refine dT 8 rfl rfl rfl (by kernel_rfl) (fun _ _ _ h => h) (y_fa0 F37_4 rfl) (.skip (.keep .nil)) hle2 ?_
 refine dE 9 (by kernel_rfl) rfl ?_
 refine st Tryz.sizeOf35 rfl rfl rfl rfl (.tail .head) ?_
 refine dNk (by kernel_rfl) ?_
 refine dD (by kernel_rfl) ?_
 refine drN .head ?_
 exact fun _ _ hA hw => rn rfl hle2 ⟨_, _, _, ⟨a9, c9⟩, rfl, r12, ⟨hbq, h0, h1⟩⟩ hA hw
theorem tc_224 {H : Fz} {L : Own} {tb : Nat} {c0 c1 c2 c3 : Value} {a va : Option Addr} {m cap vc : Nat} {xs : List Value} {k : Int} {x : List UInt8} {N : Chunk} (hr : Row 72 2 a m cap xs N) (hm : m ≤ 1000000000000) (hx : BytesAt H va vc x) (hxl : x.length ≤ 1000000000000) (h0 : 0 ≤ k) (h1 : k < 4294967296) :
  Fn Tryz.prog 224 [.int .u32 k, .slice va x.length vc, .pointer (some ⟨tb, 0, none⟩)] H ([(tb, .cells [c0, c1, c2, c3, .slice a m cap].toArray 37 (0, 0))] :: N :: L) (fun _ H' L' => ∃ a' cap' N' g, L' = [(tb, .cells [c0, c1, c2, c3, .slice a' (m + 1) cap'].toArray 37 (0, 0))] :: N' :: L ∧ Row 72 2 a' (m + 1) cap' (xs ++ gcf (g, (k, x))) N' ∧ TagAt H' g (k, x)) := by
 refine Fn.mk Tryz.call224 Tryz.func224 rfl Tryz.ntmps224 rfl ?_
 refine rgD 9 (.keep .nil) mixed ?_
 refine dT 0 rfl rfl rfl (by kernel_rfl) (fun _ _ _ h => h) (y_fa0 F37_4 rfl) (.keep .nil) (Fz.le.refl _) ?_
 refine dT 1 rfl rfl rfl (by kernel_rfl) (fun _ _ _ h => h) (y_ld (Says.own .head) Tryz.isAgg35 rfl (Nat.zero_add _).symm rfl) (.keep .nil) (Fz.le.refl _) ?_
 refine dT 2 rfl rfl rfl (by kernel_rfl) (fun _ _ _ h => h) (y_mv rfl) (.keep .nil) (Fz.le.refl _) ?_
 refine dT 3 rfl rfl rfl (by kernel_rfl) (fun _ _ _ h => h) (y_mv rfl) (.keep .nil) (Fz.le.refl _) ?_
 refine dE 4 (by kernel_rfl) rfl ?_
 have hbd9 : x.length ≤ 1000000000000 := hxl
 refine apn (news := bytesOf x) Tryz.underlying22 I5 rfl rfl (src_bytes Tryz.underlying22 hx rfl) (by omega) (by unfold maxLen; omega) rfl (fun a9 c9 N9 r9 => ?_)
 refine frL r9 .head (fun H2 hle2 hz => ?_)
 have hbq := BytesAt.row hz r9 (by unfold B47; omega)
 refine dN (.keep .nil) hle2 ?_
 refine dT 5 rfl rfl rfl (by kernel_rfl) (fun _ _ _ h => h) (y_bd S72 rfl rfl) (.keep .nil) hle2 ?_
 refine dE 6 (by kernel_rfl) rfl ?_
 refine bs' L35 rfl rfl rfl rfl (fun b_1 => ?_)
 refine dN (.skip (.keep .nil)) hle2 ?_
 refine dE 7 (by kernel_rfl) rfl ?_
 refine ap (k := 1) (news := gcf ((⟨a9, c9⟩ : GC), (k, x))) Tryz.underlying35 I72 rfl rfl hr (fun _ => (.tail (.tail .head))) (src_says Tryz.underlying35 rfl (fun _ => Says.own .head) (gcf_one _)) (by omega) (by unfold maxLen; omega) rfl (fun a12 c12 N12 r12 z12 => ?_)
 refine dN (.skip (.keep .nil)) hle2 ?_
 refine dT 8 rfl rfl rfl (by kernel_rfl) (fun _ _ _ h => h) (y_fa0 F37_4 rfl) (.skip (.keep .nil)) hle2 ?_
 refine dE 9 (by kernel_rfl) rfl ?_
 refine st Tryz.sizeOf35 rfl rfl rfl rfl (.tail .head) ?_
 refine dNk (by kernel_rfl) ?_
 refine dD (by kernel_rfl) ?_
 refine drN .head ?_
 exact fun _ _ hA hw => rn rfl hle2 ⟨_, _, _, ⟨a9, c9⟩, rfl, r12, ⟨hbq, h0, h1⟩⟩ hA hw
theorem tc_238 {H : Fz} {L : Own} {tb : Nat} {c0 c1 c2 c3 : Value} {a va : Option Addr} {m cap vc : Nat} {xs : List Value} {k : Int} {x : List UInt8} {N : Chunk} (hr : Row 72 2 a m cap xs N) (hm : m ≤ 1000000000000) (hx : BytesAt H va vc x) (hxl : x.length ≤ 1000000000000) (h0 : 0 ≤ k) (h1 : k < 4294967296) :
  Fn Tryz.prog 238 [.int .u32 k, .slice va x.length vc, .pointer (some ⟨tb, 0, none⟩)] H ([(tb, .cells [c0, c1, c2, c3, .slice a m cap].toArray 37 (0, 0))] :: N :: L) (fun _ H' L' => ∃ a' cap' N' g, L' = [(tb, .cells [c0, c1, c2, c3, .slice a' (m + 1) cap'].toArray 37 (0, 0))] :: N' :: L ∧ Row 72 2 a' (m + 1) cap' (xs ++ gcf (g, (k, x))) N' ∧ TagAt H' g (k, x)) := by
 refine Fn.mk Tryz.call238 Tryz.func238 rfl Tryz.ntmps238 rfl ?_
 refine rgD 9 (.keep .nil) mixed ?_
 refine dT 0 rfl rfl rfl (by kernel_rfl) (fun _ _ _ h => h) (y_fa0 F37_4 rfl) (.keep .nil) (Fz.le.refl _) ?_
 refine dT 1 rfl rfl rfl (by kernel_rfl) (fun _ _ _ h => h) (y_ld (Says.own .head) Tryz.isAgg35 rfl (Nat.zero_add _).symm rfl) (.keep .nil) (Fz.le.refl _) ?_
 refine dT 2 rfl rfl rfl (by kernel_rfl) (fun _ _ _ h => h) (y_mv rfl) (.keep .nil) (Fz.le.refl _) ?_
 refine dT 3 rfl rfl rfl (by kernel_rfl) (fun _ _ _ h => h) (y_mv rfl) (.keep .nil) (Fz.le.refl _) ?_
 refine dE 4 (by kernel_rfl) rfl ?_
 have hbd9 : x.length ≤ 1000000000000 := hxl
 refine apn (news := bytesOf x) Tryz.underlying22 I5 rfl rfl (src_bytes Tryz.underlying22 hx rfl) (by omega) (by unfold maxLen; omega) rfl (fun a9 c9 N9 r9 => ?_)
 refine frL r9 .head (fun H2 hle2 hz => ?_)
 have hbq := BytesAt.row hz r9 (by unfold B47; omega)
 refine dN (.keep .nil) hle2 ?_
 refine dT 5 rfl rfl rfl (by kernel_rfl) (fun _ _ _ h => h) (y_bd S72 rfl rfl) (.keep .nil) hle2 ?_
 refine dE 6 (by kernel_rfl) rfl ?_
 refine bs' L35 rfl rfl rfl rfl (fun b_1 => ?_)
 refine dN (.skip (.keep .nil)) hle2 ?_
 refine dE 7 (by kernel_rfl) rfl ?_
 refine ap (k := 1) (news := gcf ((⟨a9, c9⟩ : GC), (k, x))) Tryz.underlying35 I72 rfl rfl hr (fun _ => (.tail (.tail .head))) (src_says Tryz.underlying35 rfl (fun _ => Says.own .head) (gcf_one _)) (by omega) (by unfold maxLen; omega) rfl (fun a12 c12 N12 r12 z12 => ?_)
 refine dN (.skip (.keep .nil)) hle2 ?_
 refine dT 8 rfl rfl rfl (by kernel_rfl) (fun _ _ _ h => h) (y_fa0 F37_4 rfl) (.skip (.keep .nil)) hle2 ?_
 refine dE 9 (by kernel_rfl) rfl ?_
 refine st Tryz.sizeOf35 rfl rfl rfl rfl (.tail .head) ?_
 refine dNk (by kernel_rfl) ?_
 refine dD (by kernel_rfl) ?_
 refine drN .head ?_
 exact fun _ _ hA hw => rn rfl hle2 ⟨_, _, _, ⟨a9, c9⟩, rfl, r12, ⟨hbq, h0, h1⟩⟩ hA hw
theorem tc_246 {H : Fz} {L : Own} {tb : Nat} {c0 c1 c2 c3 : Value} {a va : Option Addr} {m cap vc : Nat} {xs : List Value} {k : Int} {x : List UInt8} {N : Chunk} (hr : Row 72 2 a m cap xs N) (hm : m ≤ 1000000000000) (hx : BytesAt H va vc x) (hxl : x.length ≤ 1000000000000) (h0 : 0 ≤ k) (h1 : k < 4294967296) :
  Fn Tryz.prog 246 [.int .u32 k, .slice va x.length vc, .pointer (some ⟨tb, 0, none⟩)] H ([(tb, .cells [c0, c1, c2, c3, .slice a m cap].toArray 37 (0, 0))] :: N :: L) (fun _ H' L' => ∃ a' cap' N' g, L' = [(tb, .cells [c0, c1, c2, c3, .slice a' (m + 1) cap'].toArray 37 (0, 0))] :: N' :: L ∧ Row 72 2 a' (m + 1) cap' (xs ++ gcf (g, (k, x))) N' ∧ TagAt H' g (k, x)) := by
 refine Fn.mk Tryz.call246 Tryz.func246 rfl Tryz.ntmps246 rfl ?_
 refine rgD 9 (.keep .nil) mixed ?_
 refine dT 0 rfl rfl rfl (by kernel_rfl) (fun _ _ _ h => h) (y_fa0 F37_4 rfl) (.keep .nil) (Fz.le.refl _) ?_
 refine dT 1 rfl rfl rfl (by kernel_rfl) (fun _ _ _ h => h) (y_ld (Says.own .head) Tryz.isAgg35 rfl (Nat.zero_add _).symm rfl) (.keep .nil) (Fz.le.refl _) ?_
 refine dT 2 rfl rfl rfl (by kernel_rfl) (fun _ _ _ h => h) (y_mv rfl) (.keep .nil) (Fz.le.refl _) ?_
 refine dT 3 rfl rfl rfl (by kernel_rfl) (fun _ _ _ h => h) (y_mv rfl) (.keep .nil) (Fz.le.refl _) ?_
 refine dE 4 (by kernel_rfl) rfl ?_
 have hbd9 : x.length ≤ 1000000000000 := hxl
 refine apn (news := bytesOf x) Tryz.underlying22 I5 rfl rfl (src_bytes Tryz.underlying22 hx rfl) (by omega) (by unfold maxLen; omega) rfl (fun a9 c9 N9 r9 => ?_)
 refine frL r9 .head (fun H2 hle2 hz => ?_)
 have hbq := BytesAt.row hz r9 (by unfold B47; omega)
 refine dN (.keep .nil) hle2 ?_
 refine dT 5 rfl rfl rfl (by kernel_rfl) (fun _ _ _ h => h) (y_bd S72 rfl rfl) (.keep .nil) hle2 ?_
 refine dE 6 (by kernel_rfl) rfl ?_
 refine bs' L35 rfl rfl rfl rfl (fun b_1 => ?_)
 refine dN (.skip (.keep .nil)) hle2 ?_
 refine dE 7 (by kernel_rfl) rfl ?_
 refine ap (k := 1) (news := gcf ((⟨a9, c9⟩ : GC), (k, x))) Tryz.underlying35 I72 rfl rfl hr (fun _ => (.tail (.tail .head))) (src_says Tryz.underlying35 rfl (fun _ => Says.own .head) (gcf_one _)) (by omega) (by unfold maxLen; omega) rfl (fun a12 c12 N12 r12 z12 => ?_)
 refine dN (.skip (.keep .nil)) hle2 ?_
 refine dT 8 rfl rfl rfl (by kernel_rfl) (fun _ _ _ h => h) (y_fa0 F37_4 rfl) (.skip (.keep .nil)) hle2 ?_
 refine dE 9 (by kernel_rfl) rfl ?_
 refine st Tryz.sizeOf35 rfl rfl rfl rfl (.tail .head) ?_
 refine dNk (by kernel_rfl) ?_
 refine dD (by kernel_rfl) ?_
 refine drN .head ?_
 exact fun _ _ hA hw => rn rfl hle2 ⟨_, _, _, ⟨a9, c9⟩, rfl, r12, ⟨hbq, h0, h1⟩⟩ hA hw
theorem tc_248 {H : Fz} {L : Own} {tb : Nat} {c0 c1 c2 c3 : Value} {a va : Option Addr} {m cap vc : Nat} {xs : List Value} {k : Int} {x : List UInt8} {N : Chunk} (hr : Row 72 2 a m cap xs N) (hm : m ≤ 1000000000000) (hx : BytesAt H va vc x) (hxl : x.length ≤ 1000000000000) (h0 : 0 ≤ k) (h1 : k < 4294967296) :
  Fn Tryz.prog 248 [.int .u32 k, .slice va x.length vc, .pointer (some ⟨tb, 0, none⟩)] H ([(tb, .cells [c0, c1, c2, c3, .slice a m cap].toArray 37 (0, 0))] :: N :: L) (fun _ H' L' => ∃ a' cap' N' g, L' = [(tb, .cells [c0, c1, c2, c3, .slice a' (m + 1) cap'].toArray 37 (0, 0))] :: N' :: L ∧ Row 72 2 a' (m + 1) cap' (xs ++ gcf (g, (k, x))) N' ∧ TagAt H' g (k, x)) := by
 refine Fn.mk Tryz.call248 Tryz.func248 rfl Tryz.ntmps248 rfl ?_
 refine rgD 9 (.keep .nil) mixed ?_
 refine dT 0 rfl rfl rfl (by kernel_rfl) (fun _ _ _ h => h) (y_fa0 F37_4 rfl) (.keep .nil) (Fz.le.refl _) ?_
 refine dT 1 rfl rfl rfl (by kernel_rfl) (fun _ _ _ h => h) (y_ld (Says.own .head) Tryz.isAgg35 rfl (Nat.zero_add _).symm rfl) (.keep .nil) (Fz.le.refl _) ?_
 refine dT 2 rfl rfl rfl (by kernel_rfl) (fun _ _ _ h => h) (y_mv rfl) (.keep .nil) (Fz.le.refl _) ?_
 refine dT 3 rfl rfl rfl (by kernel_rfl) (fun _ _ _ h => h) (y_mv rfl) (.keep .nil) (Fz.le.refl _) ?_
 refine dE 4 (by kernel_rfl) rfl ?_
 have hbd9 : x.length ≤ 1000000000000 := hxl
 refine apn (news := bytesOf x) Tryz.underlying22 I5 rfl rfl (src_bytes Tryz.underlying22 hx rfl) (by omega) (by unfold maxLen; omega) rfl (fun a9 c9 N9 r9 => ?_)
 refine frL r9 .head (fun H2 hle2 hz => ?_)
 have hbq := BytesAt.row hz r9 (by unfold B47; omega)
 refine dN (.keep .nil) hle2 ?_
 refine dT 5 rfl rfl rfl (by kernel_rfl) (fun _ _ _ h => h) (y_bd S72 rfl rfl) (.keep .nil) hle2 ?_
 refine dE 6 (by kernel_rfl) rfl ?_
 refine bs' L35 rfl rfl rfl rfl (fun b_1 => ?_)
 refine dN (.skip (.keep .nil)) hle2 ?_
 refine dE 7 (by kernel_rfl) rfl ?_
 refine ap (k := 1) (news := gcf ((⟨a9, c9⟩ : GC), (k, x))) Tryz.underlying35 I72 rfl rfl hr (fun _ => (.tail (.tail .head))) (src_says Tryz.underlying35 rfl (fun _ => Says.own .head) (gcf_one _)) (by omega) (by unfold maxLen; omega) rfl (fun a12 c12 N12 r12 z12 => ?_)
 refine dN (.skip (.keep .nil)) hle2 ?_
 refine dT 8 rfl rfl rfl (by kernel_rfl) (fun _ _ _ h => h) (y_fa0 F37_4 rfl) (.skip (.keep .nil)) hle2 ?_
 refine dE 9 (by kernel_rfl) rfl ?_
 refine st Tryz.sizeOf35 rfl rfl rfl rfl (.tail .head) ?_
 refine dNk (by kernel_rfl) ?_
 refine dD (by kernel_rfl) ?_
 refine drN .head ?_
 exact fun _ _ hA hw => rn rfl hle2 ⟨_, _, _, ⟨a9, c9⟩, rfl, r12, ⟨hbq, h0, h1⟩⟩ hA hw
theorem tc_256 {H : Fz} {L : Own} {tb : Nat} {c0 c1 c2 c3 : Value} {a va : Option Addr} {m cap vc : Nat} {xs : List Value} {k : Int} {x : List UInt8} {N : Chunk} (hr : Row 72 2 a m cap xs N) (hm : m ≤ 1000000000000) (hx : BytesAt H va vc x) (hxl : x.length ≤ 1000000000000) (h0 : 0 ≤ k) (h1 : k < 4294967296) :
  Fn Tryz.prog 256 [.int .u32 k, .slice va x.length vc, .pointer (some ⟨tb, 0, none⟩)] H ([(tb, .cells [c0, c1, c2, c3, .slice a m cap].toArray 37 (0, 0))] :: N :: L) (fun _ H' L' => ∃ a' cap' N' g, L' = [(tb, .cells [c0, c1, c2, c3, .slice a' (m + 1) cap'].toArray 37 (0, 0))] :: N' :: L ∧ Row 72 2 a' (m + 1) cap' (xs ++ gcf (g, (k, x))) N' ∧ TagAt H' g (k, x)) := by
 refine Fn.mk Tryz.call256 Tryz.func256 rfl Tryz.ntmps256 rfl ?_
 refine rgD 9 (.keep .nil) mixed ?_
 refine dT 0 rfl rfl rfl (by kernel_rfl) (fun _ _ _ h => h) (y_fa0 F37_4 rfl) (.keep .nil) (Fz.le.refl _) ?_
 refine dT 1 rfl rfl rfl (by kernel_rfl) (fun _ _ _ h => h) (y_ld (Says.own .head) Tryz.isAgg35 rfl (Nat.zero_add _).symm rfl) (.keep .nil) (Fz.le.refl _) ?_
 refine dT 2 rfl rfl rfl (by kernel_rfl) (fun _ _ _ h => h) (y_mv rfl) (.keep .nil) (Fz.le.refl _) ?_
 refine dT 3 rfl rfl rfl (by kernel_rfl) (fun _ _ _ h => h) (y_mv rfl) (.keep .nil) (Fz.le.refl _) ?_
 refine dE 4 (by kernel_rfl) rfl ?_
 have hbd9 : x.length ≤ 1000000000000 := hxl
 refine apn (news := bytesOf x) Tryz.underlying22 I5 rfl rfl (src_bytes Tryz.underlying22 hx rfl) (by omega) (by unfold maxLen; omega) rfl (fun a9 c9 N9 r9 => ?_)
 refine frL r9 .head (fun H2 hle2 hz => ?_)
 have hbq := BytesAt.row hz r9 (by unfold B47; omega)
 refine dN (.keep .nil) hle2 ?_
 refine dT 5 rfl rfl rfl (by kernel_rfl) (fun _ _ _ h => h) (y_bd S72 rfl rfl) (.keep .nil) hle2 ?_
 refine dE 6 (by kernel_rfl) rfl ?_
 refine bs' L35 rfl rfl rfl rfl (fun b_1 => ?_)
 refine dN (.skip (.keep .nil)) hle2 ?_
 refine dE 7 (by kernel_rfl) rfl ?_
 refine ap (k := 1) (news := gcf ((⟨a9, c9⟩ : GC), (k, x))) Tryz.underlying35 I72 rfl rfl hr (fun _ => (.tail (.tail .head))) (src_says Tryz.underlying35 rfl (fun _ => Says.own .head) (gcf_one _)) (by omega) (by unfold maxLen; omega) rfl (fun a12 c12 N12 r12 z12 => ?_)
 refine dN (.skip (.keep .nil)) hle2 ?_
 refine dT 8 rfl rfl rfl (by kernel_rfl) (fun _ _ _ h => h) (y_fa0 F37_4 rfl) (.skip (.keep .nil)) hle2 ?_
 refine dE 9 (by kernel_rfl) rfl ?_
 refine st Tryz.sizeOf35 rfl rfl rfl rfl (.tail .head) ?_
 refine dNk (by kernel_rfl) ?_
 refine dD (by kernel_rfl) ?_
 refine drN .head ?_
 exact fun _ _ hA hw => rn rfl hle2 ⟨_, _, _, ⟨a9, c9⟩, rfl, r12, ⟨hbq, h0, h1⟩⟩ hA hw
theorem tc_264 {H : Fz} {L : Own} {tb : Nat} {c0 c1 c2 c3 : Value} {a va : Option Addr} {m cap vc : Nat} {xs : List Value} {k : Int} {x : List UInt8} {N : Chunk} (hr : Row 72 2 a m cap xs N) (hm : m ≤ 1000000000000) (hx : BytesAt H va vc x) (hxl : x.length ≤ 1000000000000) (h0 : 0 ≤ k) (h1 : k < 4294967296) :
  Fn Tryz.prog 264 [.int .u32 k, .slice va x.length vc, .pointer (some ⟨tb, 0, none⟩)] H ([(tb, .cells [c0, c1, c2, c3, .slice a m cap].toArray 37 (0, 0))] :: N :: L) (fun _ H' L' => ∃ a' cap' N' g, L' = [(tb, .cells [c0, c1, c2, c3, .slice a' (m + 1) cap'].toArray 37 (0, 0))] :: N' :: L ∧ Row 72 2 a' (m + 1) cap' (xs ++ gcf (g, (k, x))) N' ∧ TagAt H' g (k, x)) := by
 refine Fn.mk Tryz.call264 Tryz.func264 rfl Tryz.ntmps264 rfl ?_
 refine rgD 9 (.keep .nil) mixed ?_
 refine dT 0 rfl rfl rfl (by kernel_rfl) (fun _ _ _ h => h) (y_fa0 F37_4 rfl) (.keep .nil) (Fz.le.refl _) ?_
 refine dT 1 rfl rfl rfl (by kernel_rfl) (fun _ _ _ h => h) (y_ld (Says.own .head) Tryz.isAgg35 rfl (Nat.zero_add _).symm rfl) (.keep .nil) (Fz.le.refl _) ?_
 refine dT 2 rfl rfl rfl (by kernel_rfl) (fun _ _ _ h => h) (y_mv rfl) (.keep .nil) (Fz.le.refl _) ?_
 refine dT 3 rfl rfl rfl (by kernel_rfl) (fun _ _ _ h => h) (y_mv rfl) (.keep .nil) (Fz.le.refl _) ?_
 refine dE 4 (by kernel_rfl) rfl ?_
 have hbd9 : x.length ≤ 1000000000000 := hxl
 refine apn (news := bytesOf x) Tryz.underlying22 I5 rfl rfl (src_bytes Tryz.underlying22 hx rfl) (by omega) (by unfold maxLen; omega) rfl (fun a9 c9 N9 r9 => ?_)
 refine frL r9 .head (fun H2 hle2 hz => ?_)
 have hbq := BytesAt.row hz r9 (by unfold B47; omega)
 refine dN (.keep .nil) hle2 ?_
 refine dT 5 rfl rfl rfl (by kernel_rfl) (fun _ _ _ h => h) (y_bd S72 rfl rfl) (.keep .nil) hle2 ?_
 refine dE 6 (by kernel_rfl) rfl ?_
 refine bs' L35 rfl rfl rfl rfl (fun b_1 => ?_)
 refine dN (.skip (.keep .nil)) hle2 ?_
 refine dE 7 (by kernel_rfl) rfl ?_
 refine ap (k := 1) (news := gcf ((⟨a9, c9⟩ : GC), (k, x))) Tryz.underlying35 I72 rfl rfl hr (fun _ => (.tail (.tail .head))) (src_says Tryz.underlying35 rfl (fun _ => Says.own .head) (gcf_one _)) (by omega) (by unfold maxLen; omega) rfl (fun a12 c12 N12 r12 z12 => ?_)
 refine dN (.skip (.keep .nil)) hle2 ?_
 refine dT 8 rfl rfl rfl (by kernel_rfl) (fun _ _ _ h => h) (y_fa0 F37_4 rfl) (.skip (.keep .nil)) hle2 ?_
 refine dE 9 (by kernel_rfl) rfl ?_
 refine st Tryz.sizeOf35 rfl rfl rfl rfl (.tail .head) ?_
 refine dNk (by kernel_rfl) ?_
 refine dD (by kernel_rfl) ?_
 refine drN .head ?_
 exact fun _ _ hA hw => rn rfl hle2 ⟨_, _, _, ⟨a9, c9⟩, rfl, r12, ⟨hbq, h0, h1⟩⟩ hA hw
theorem tc_265 {H : Fz} {L : Own} {tb : Nat} {c0 c1 c2 c3 : Value} {a va : Option Addr} {m cap vc : Nat} {xs : List Value} {k : Int} {x : List UInt8} {N : Chunk} (hr : Row 72 2 a m cap xs N) (hm : m ≤ 1000000000000) (hx : BytesAt H va vc x) (hxl : x.length ≤ 1000000000000) (h0 : 0 ≤ k) (h1 : k < 4294967296) :
  Fn Tryz.prog 265 [.int .u32 k, .slice va x.length vc, .pointer (some ⟨tb, 0, none⟩)] H ([(tb, .cells [c0, c1, c2, c3, .slice a m cap].toArray 37 (0, 0))] :: N :: L) (fun _ H' L' => ∃ a' cap' N' g, L' = [(tb, .cells [c0, c1, c2, c3, .slice a' (m + 1) cap'].toArray 37 (0, 0))] :: N' :: L ∧ Row 72 2 a' (m + 1) cap' (xs ++ gcf (g, (k, x))) N' ∧ TagAt H' g (k, x)) := by
 refine Fn.mk Tryz.call265 Tryz.func265 rfl Tryz.ntmps265 rfl ?_
 refine rgD 9 (.keep .nil) mixed ?_
 refine dT 0 rfl rfl rfl (by kernel_rfl) (fun _ _ _ h => h) (y_fa0 F37_4 rfl) (.keep .nil) (Fz.le.refl _) ?_
 refine dT 1 rfl rfl rfl (by kernel_rfl) (fun _ _ _ h => h) (y_ld (Says.own .head) Tryz.isAgg35 rfl (Nat.zero_add _).symm rfl) (.keep .nil) (Fz.le.refl _) ?_
 refine dT 2 rfl rfl rfl (by kernel_rfl) (fun _ _ _ h => h) (y_mv rfl) (.keep .nil) (Fz.le.refl _) ?_
 refine dT 3 rfl rfl rfl (by kernel_rfl) (fun _ _ _ h => h) (y_mv rfl) (.keep .nil) (Fz.le.refl _) ?_
 refine dE 4 (by kernel_rfl) rfl ?_
 have hbd9 : x.length ≤ 1000000000000 := hxl
 refine apn (news := bytesOf x) Tryz.underlying22 I5 rfl rfl (src_bytes Tryz.underlying22 hx rfl) (by omega) (by unfold maxLen; omega) rfl (fun a9 c9 N9 r9 => ?_)
 refine frL r9 .head (fun H2 hle2 hz => ?_)
 have hbq := BytesAt.row hz r9 (by unfold B47; omega)
 refine dN (.keep .nil) hle2 ?_
 refine dT 5 rfl rfl rfl (by kernel_rfl) (fun _ _ _ h => h) (y_bd S72 rfl rfl) (.keep .nil) hle2 ?_
 refine dE 6 (by kernel_rfl) rfl ?_
 refine bs' L35 rfl rfl rfl rfl (fun b_1 => ?_)
 refine dN (.skip (.keep .nil)) hle2 ?_
 refine dE 7 (by kernel_rfl) rfl ?_
 refine ap (k := 1) (news := gcf ((⟨a9, c9⟩ : GC), (k, x))) Tryz.underlying35 I72 rfl rfl hr (fun _ => (.tail (.tail .head))) (src_says Tryz.underlying35 rfl (fun _ => Says.own .head) (gcf_one _)) (by omega) (by unfold maxLen; omega) rfl (fun a12 c12 N12 r12 z12 => ?_)
 refine dN (.skip (.keep .nil)) hle2 ?_
 refine dT 8 rfl rfl rfl (by kernel_rfl) (fun _ _ _ h => h) (y_fa0 F37_4 rfl) (.skip (.keep .nil)) hle2 ?_
 refine dE 9 (by kernel_rfl) rfl ?_
 refine st Tryz.sizeOf35 rfl rfl rfl rfl (.tail .head) ?_
 refine dNk (by kernel_rfl) ?_
 refine dD (by kernel_rfl) ?_
 refine drN .head ?_
 exact fun _ _ hA hw => rn rfl hle2 ⟨_, _, _, ⟨a9, c9⟩, rfl, r12, ⟨hbq, h0, h1⟩⟩ hA hw
theorem tc_269 {H : Fz} {L : Own} {tb : Nat} {c0 c1 c2 c3 : Value} {a va : Option Addr} {m cap vc : Nat} {xs : List Value} {k : Int} {x : List UInt8} {N : Chunk} (hr : Row 72 2 a m cap xs N) (hm : m ≤ 1000000000000) (hx : BytesAt H va vc x) (hxl : x.length ≤ 1000000000000) (h0 : 0 ≤ k) (h1 : k < 4294967296) :
  Fn Tryz.prog 269 [.int .u32 k, .slice va x.length vc, .pointer (some ⟨tb, 0, none⟩)] H ([(tb, .cells [c0, c1, c2, c3, .slice a m cap].toArray 37 (0, 0))] :: N :: L) (fun _ H' L' => ∃ a' cap' N' g, L' = [(tb, .cells [c0, c1, c2, c3, .slice a' (m + 1) cap'].toArray 37 (0, 0))] :: N' :: L ∧ Row 72 2 a' (m + 1) cap' (xs ++ gcf (g, (k, x))) N' ∧ TagAt H' g (k, x)) := by
 refine Fn.mk Tryz.call269 Tryz.func269 rfl Tryz.ntmps269 rfl ?_
 refine rgD 9 (.keep .nil) mixed ?_
 refine dT 0 rfl rfl rfl (by kernel_rfl) (fun _ _ _ h => h) (y_fa0 F37_4 rfl) (.keep .nil) (Fz.le.refl _) ?_
 refine dT 1 rfl rfl rfl (by kernel_rfl) (fun _ _ _ h => h) (y_ld (Says.own .head) Tryz.isAgg35 rfl (Nat.zero_add _).symm rfl) (.keep .nil) (Fz.le.refl _) ?_
 refine dT 2 rfl rfl rfl (by kernel_rfl) (fun _ _ _ h => h) (y_mv rfl) (.keep .nil) (Fz.le.refl _) ?_
 refine dT 3 rfl rfl rfl (by kernel_rfl) (fun _ _ _ h => h) (y_mv rfl) (.keep .nil) (Fz.le.refl _) ?_
 refine dE 4 (by kernel_rfl) rfl ?_
 have hbd9 : x.length ≤ 1000000000000 := hxl
 refine apn (news := bytesOf x) Tryz.underlying22 I5 rfl rfl (src_bytes Tryz.underlying22 hx rfl) (by omega) (by unfold maxLen; omega) rfl (fun a9 c9 N9 r9 => ?_)
 refine frL r9 .head (fun H2 hle2 hz => ?_)
 have hbq := BytesAt.row hz r9 (by unfold B47; omega)
 refine dN (.keep .nil) hle2 ?_
 refine dT 5 rfl rfl rfl (by kernel_rfl) (fun _ _ _ h => h) (y_bd S72 rfl rfl) (.keep .nil) hle2 ?_
 refine dE 6 (by kernel_rfl) rfl ?_
 refine bs' L35 rfl rfl rfl rfl (fun b_1 => ?_)
 refine dN (.skip (.keep .nil)) hle2 ?_
 refine dE 7 (by kernel_rfl) rfl ?_
 refine ap (k := 1) (news := gcf ((⟨a9, c9⟩ : GC), (k, x))) Tryz.underlying35 I72 rfl rfl hr (fun _ => (.tail (.tail .head))) (src_says Tryz.underlying35 rfl (fun _ => Says.own .head) (gcf_one _)) (by omega) (by unfold maxLen; omega) rfl (fun a12 c12 N12 r12 z12 => ?_)
 refine dN (.skip (.keep .nil)) hle2 ?_
 refine dT 8 rfl rfl rfl (by kernel_rfl) (fun _ _ _ h => h) (y_fa0 F37_4 rfl) (.skip (.keep .nil)) hle2 ?_
 refine dE 9 (by kernel_rfl) rfl ?_
 refine st Tryz.sizeOf35 rfl rfl rfl rfl (.tail .head) ?_
 refine dNk (by kernel_rfl) ?_
 refine dD (by kernel_rfl) ?_
 refine drN .head ?_
 exact fun _ _ hA hw => rn rfl hle2 ⟨_, _, _, ⟨a9, c9⟩, rfl, r12, ⟨hbq, h0, h1⟩⟩ hA hw
theorem tc_271 {H : Fz} {L : Own} {tb : Nat} {c0 c1 c2 c3 : Value} {a va : Option Addr} {m cap vc : Nat} {xs : List Value} {k : Int} {x : List UInt8} {N : Chunk} (hr : Row 72 2 a m cap xs N) (hm : m ≤ 1000000000000) (hx : BytesAt H va vc x) (hxl : x.length ≤ 1000000000000) (h0 : 0 ≤ k) (h1 : k < 4294967296) :
  Fn Tryz.prog 271 [.int .u32 k, .slice va x.length vc, .pointer (some ⟨tb, 0, none⟩)] H ([(tb, .cells [c0, c1, c2, c3, .slice a m cap].toArray 37 (0, 0))] :: N :: L) (fun _ H' L' => ∃ a' cap' N' g, L' = [(tb, .cells [c0, c1, c2, c3, .slice a' (m + 1) cap'].toArray 37 (0, 0))] :: N' :: L ∧ Row 72 2 a' (m + 1) cap' (xs ++ gcf (g, (k, x))) N' ∧ TagAt H' g (k, x)) := by
 refine Fn.mk Tryz.call271 Tryz.func271 rfl Tryz.ntmps271 rfl ?_
 refine rgD 9 (.keep .nil) mixed ?_
 refine dT 0 rfl rfl rfl (by kernel_rfl) (fun _ _ _ h => h) (y_fa0 F37_4 rfl) (.keep .nil) (Fz.le.refl _) ?_
 refine dT 1 rfl rfl rfl (by kernel_rfl) (fun _ _ _ h => h) (y_ld (Says.own .head) Tryz.isAgg35 rfl (Nat.zero_add _).symm rfl) (.keep .nil) (Fz.le.refl _) ?_
 refine dT 2 rfl rfl rfl (by kernel_rfl) (fun _ _ _ h => h) (y_mv rfl) (.keep .nil) (Fz.le.refl _) ?_
 refine dT 3 rfl rfl rfl (by kernel_rfl) (fun _ _ _ h => h) (y_mv rfl) (.keep .nil) (Fz.le.refl _) ?_
 refine dE 4 (by kernel_rfl) rfl ?_
 have hbd9 : x.length ≤ 1000000000000 := hxl
 refine apn (news := bytesOf x) Tryz.underlying22 I5 rfl rfl (src_bytes Tryz.underlying22 hx rfl) (by omega) (by unfold maxLen; omega) rfl (fun a9 c9 N9 r9 => ?_)
 refine frL r9 .head (fun H2 hle2 hz => ?_)
 have hbq := BytesAt.row hz r9 (by unfold B47; omega)
 refine dN (.keep .nil) hle2 ?_
 refine dT 5 rfl rfl rfl (by kernel_rfl) (fun _ _ _ h => h) (y_bd S72 rfl rfl) (.keep .nil) hle2 ?_
 refine dE 6 (by kernel_rfl) rfl ?_
 refine bs' L35 rfl rfl rfl rfl (fun b_1 => ?_)
 refine dN (.skip (.keep .nil)) hle2 ?_
 refine dE 7 (by kernel_rfl) rfl ?_
 refine ap (k := 1) (news := gcf ((⟨a9, c9⟩ : GC), (k, x))) Tryz.underlying35 I72 rfl rfl hr (fun _ => (.tail (.tail .head))) (src_says Tryz.underlying35 rfl (fun _ => Says.own .head) (gcf_one _)) (by omega) (by unfold maxLen; omega) rfl (fun a12 c12 N12 r12 z12 => ?_)
 refine dN (.skip (.keep .nil)) hle2 ?_
 refine dT 8 rfl rfl rfl (by kernel_rfl) (fun _ _ _ h => h) (y_fa0 F37_4 rfl) (.skip (.keep .nil)) hle2 ?_
 refine dE 9 (by kernel_rfl) rfl ?_
 refine st Tryz.sizeOf35 rfl rfl rfl rfl (.tail .head) ?_
 refine dNk (by kernel_rfl) ?_
 refine dD (by kernel_rfl) ?_
 refine drN .head ?_
 exact fun _ _ hA hw => rn rfl hle2 ⟨_, _, _, ⟨a9, c9⟩, rfl, r12, ⟨hbq, h0, h1⟩⟩ hA hw
theorem tc_278 {H : Fz} {L : Own} {tb : Nat} {c0 c1 c2 c3 : Value} {a va : Option Addr} {m cap vc : Nat} {xs : List Value} {k : Int} {x : List UInt8} {N : Chunk} (hr : Row 72 2 a m cap xs N) (hm : m ≤ 1000000000000) (hx : BytesAt H va vc x) (hxl : x.length ≤ 1000000000000) (h0 : 0 ≤ k) (h1 : k < 4294967296) :
  Fn Tryz.prog 278 [.int .u32 k, .slice va x.length vc, .pointer (some ⟨tb, 0, none⟩)] H ([(tb, .cells [c0, c1, c2, c3, .slice a m cap].toArray 37 (0, 0))] :: N :: L) (fun _ H' L' => ∃ a' cap' N' g, L' = [(tb, .cells [c0, c1, c2, c3, .slice a' (m + 1) cap'].toArray 37 (0, 0))] :: N' :: L ∧ Row 72 2 a' (m + 1) cap' (xs ++ gcf (g, (k, x))) N' ∧ TagAt H' g (k, x)) := by
 refine Fn.mk Tryz.call278 Tryz.func278 rfl Tryz.ntmps278 rfl ?_
 refine rgD 9 (.keep .nil) mixed ?_
 refine dT 0 rfl rfl rfl (by kernel_rfl) (fun _ _ _ h => h) (y_fa0 F37_4 rfl) (.keep .nil) (Fz.le.refl _) ?_
 refine dT 1 rfl rfl rfl (by kernel_rfl) (fun _ _ _ h => h) (y_ld (Says.own .head) Tryz.isAgg35 rfl (Nat.zero_add _).symm rfl) (.keep .nil) (Fz.le.refl _) ?_
 refine dT 2 rfl rfl rfl (by kernel_rfl) (fun _ _ _ h => h) (y_mv rfl) (.keep .nil) (Fz.le.refl _) ?_
 refine dT 3 rfl rfl rfl (by kernel_rfl) (fun _ _ _ h => h) (y_mv rfl) (.keep .nil) (Fz.le.refl _) ?_
 refine dE 4 (by kernel_rfl) rfl ?_
 have hbd9 : x.length ≤ 1000000000000 := hxl
 refine apn (news := bytesOf x) Tryz.underlying22 I5 rfl rfl (src_bytes Tryz.underlying22 hx rfl) (by omega) (by unfold maxLen; omega) rfl (fun a9 c9 N9 r9 => ?_)
 refine frL r9 .head (fun H2 hle2 hz => ?_)
 have hbq := BytesAt.row hz r9 (by unfold B47; omega)
 refine dN (.keep .nil) hle2 ?_
 refine dT 5 rfl rfl rfl (by kernel_rfl) (fun _ _ _ h => h) (y_bd S72 rfl rfl) (.keep .nil) hle2 ?_
 refine dE 6 (by kernel_rfl) rfl ?_
 refine bs' L35 rfl rfl rfl rfl (fun b_1 => ?_)
 refine dN (.skip (.keep .nil)) hle2 ?_
 refine dE 7 (by kernel_rfl) rfl ?_
 refine ap (k := 1) (news := gcf ((⟨a9, c9⟩ : GC), (k, x))) Tryz.underlying35 I72 rfl rfl hr (fun _ => (.tail (.tail .head))) (src_says Tryz.underlying35 rfl (fun _ => Says.own .head) (gcf_one _)) (by omega) (by unfold maxLen; omega) rfl (fun a12 c12 N12 r12 z12 => ?_)
 refine dN (.skip (.keep .nil)) hle2 ?_
 refine dT 8 rfl rfl rfl (by kernel_rfl) (fun _ _ _ h => h) (y_fa0 F37_4 rfl) (.skip (.keep .nil)) hle2 ?_
 refine dE 9 (by kernel_rfl) rfl ?_
 refine st Tryz.sizeOf35 rfl rfl rfl rfl (.tail .head) ?_
 refine dNk (by kernel_rfl) ?_
 refine dD (by kernel_rfl) ?_
 refine drN .head ?_
 exact fun _ _ hA hw => rn rfl hle2 ⟨_, _, _, ⟨a9, c9⟩, rfl, r12, ⟨hbq, h0, h1⟩⟩ hA hw
theorem tc_284 {H : Fz} {L : Own} {tb : Nat} {c0 c1 c2 c3 : Value} {a va : Option Addr} {m cap vc : Nat} {xs : List Value} {k : Int} {x : List UInt8} {N : Chunk} (hr : Row 72 2 a m cap xs N) (hm : m ≤ 1000000000000) (hx : BytesAt H va vc x) (hxl : x.length ≤ 1000000000000) (h0 : 0 ≤ k) (h1 : k < 4294967296) :
  Fn Tryz.prog 284 [.int .u32 k, .slice va x.length vc, .pointer (some ⟨tb, 0, none⟩)] H ([(tb, .cells [c0, c1, c2, c3, .slice a m cap].toArray 37 (0, 0))] :: N :: L) (fun _ H' L' => ∃ a' cap' N' g, L' = [(tb, .cells [c0, c1, c2, c3, .slice a' (m + 1) cap'].toArray 37 (0, 0))] :: N' :: L ∧ Row 72 2 a' (m + 1) cap' (xs ++ gcf (g, (k, x))) N' ∧ TagAt H' g (k, x)) := by
 refine Fn.mk Tryz.call284 Tryz.func284 rfl Tryz.ntmps284 rfl ?_
 refine rgD 9 (.keep .nil) mixed ?_
 refine dT 0 rfl rfl rfl (by kernel_rfl) (fun _ _ _ h => h) (y_fa0 F37_4 rfl) (.keep .nil) (Fz.le.refl _) ?_
 refine dT 1 rfl rfl rfl (by kernel_rfl) (fun _ _ _ h => h) (y_ld (Says.own .head) Tryz.isAgg35 rfl (Nat.zero_add _).symm rfl) (.keep .nil) (Fz.le.refl _) ?_
 refine dT 2 rfl rfl rfl (by kernel_rfl) (fun _ _ _ h => h) (y_mv rfl) (.keep .nil) (Fz.le.refl _) ?_
 refine dT 3 rfl rfl rfl (by kernel_rfl) (fun _ _ _ h => h) (y_mv rfl) (.keep .nil) (Fz.le.refl _) ?_
 refine dE 4 (by kernel_rfl) rfl ?_
 have hbd9 : x.length ≤ 1000000000000 := hxl
 refine apn (news := bytesOf x) Tryz.underlying22 I5 rfl rfl (src_bytes Tryz.underlying22 hx rfl) (by omega) (by unfold maxLen; omega) rfl (fun a9 c9 N9 r9 => ?_)
 refine frL r9 .head (fun H2 hle2 hz => ?_)
 have hbq := BytesAt.row hz r9 (by unfold B47; omega)
 refine dN (.keep .nil) hle2 ?_
 refine dT 5 rfl rfl rfl (by kernel_rfl) (fun _ _ _ h => h) (y_bd S72 rfl rfl) (.keep .nil) hle2 ?_
 refine dE 6 (by kernel_rfl) rfl ?_
 refine bs' L35 rfl rfl rfl rfl (fun b_1 => ?_)
 refine dN (.skip (.keep .nil)) hle2 ?_
 refine dE 7 (by kernel_rfl) rfl ?_
 refine ap (k := 1) (news := gcf ((⟨a9, c9⟩ : GC), (k, x))) Tryz.underlying35 I72 rfl rfl hr (fun _ => (.tail (.tail .head))) (src_says Tryz.underlying35 rfl (fun _ => Says.own .head) (gcf_one _)) (by omega) (by unfold maxLen; omega) rfl (fun a12 c12 N12 r12 z12 => ?_)
 refine dN (.skip (.keep .nil)) hle2 ?_
 refine dT 8 rfl rfl rfl (by kernel_rfl) (fun _ _ _ h => h) (y_fa0 F37_4 rfl) (.skip (.keep .nil)) hle2 ?_
 refine dE 9 (by kernel_rfl) rfl ?_
 refine st Tryz.sizeOf35 rfl rfl rfl rfl (.tail .head) ?_
 refine dNk (by kernel_rfl) ?_
 refine dD (by kernel_rfl) ?_
 refine drN .head ?_
 exact fun _ _ hA hw => rn rfl hle2 ⟨_, _, _, ⟨a9, c9⟩, rfl, r12, ⟨hbq, h0, h1⟩⟩ hA hw
theorem tc_297 {H : Fz} {L : Own} {tb : Nat} {c0 c1 c2 c3 : Value} {a va : Option Addr} {m cap vc : Nat} {xs : List Value} {k : Int} {x : List UInt8} {N : Chunk} (hr : Row 72 2 a m cap xs N) (hm : m ≤ 1000000000000) (hx : BytesAt H va vc x) (hxl : x.length ≤ 1000000000000) (h0 : 0 ≤ k) (h1 : k < 4294967296) :
  Fn Tryz.prog 297 [.int .u32 k, .slice va x.length vc, .pointer (some ⟨tb, 0, none⟩)] H ([(tb, .cells [c0, c1, c2, c3, .slice a m cap].toArray 37 (0, 0))] :: N :: L) (fun _ H' L' => ∃ a' cap' N' g, L' = [(tb, .cells [c0, c1, c2, c3, .slice a' (m + 1) cap'].toArray 37 (0, 0))] :: N' :: L ∧ Row 72 2 a' (m + 1) cap' (xs ++ gcf (g, (k, x))) N' ∧ TagAt H' g (k, x)) := by
 refine Fn.mk Tryz.call297 Tryz.func297 rfl Tryz.ntmps297 rfl ?_
 refine rgD 9 (.keep .nil) mixed ?_
 refine dT 0 rfl rfl rfl (by kernel_rfl) (fun _ _ _ h => h) (y_fa0 F37_4 rfl) (.keep .nil) (Fz.le.refl _) ?_
 refine dT 1 rfl rfl rfl (by kernel_rfl) (fun _ _ _ h => h) (y_ld (Says.own .head) Tryz.isAgg35 rfl (Nat.zero_add _).symm rfl) (.keep .nil) (Fz.le.refl _) ?_
 refine dT 2 rfl rfl rfl (by kernel_rfl) (fun _ _ _ h => h) (y_mv rfl) (.keep .nil) (Fz.le.refl _) ?_
 refine dT 3 rfl rfl rfl (by kernel_rfl) (fun _ _ _ h => h) (y_mv rfl) (.keep .nil) (Fz.le.refl _) ?_
 refine dE 4 (by kernel_rfl) rfl ?_
 have hbd9 : x.length ≤ 1000000000000 := hxl
 refine apn (news := bytesOf x) Tryz.underlying22 I5 rfl rfl (src_bytes Tryz.underlying22 hx rfl) (by omega) (by unfold maxLen; omega) rfl (fun a9 c9 N9 r9 => ?_)
 refine frL r9 .head (fun H2 hle2 hz => ?_)
 have hbq := BytesAt.row hz r9 (by unfold B47; omega)
 refine dN (.keep .nil) hle2 ?_
 refine dT 5 rfl rfl rfl (by kernel_rfl) (fun _ _ _ h => h) (y_bd S72 rfl rfl) (.keep .nil) hle2 ?_
 refine dE 6 (by kernel_rfl) rfl ?_
 refine bs' L35 rfl rfl rfl rfl (fun b_1 => ?_)
 refine dN (.skip (.keep .nil)) hle2 ?_
 refine dE 7 (by kernel_rfl) rfl ?_
 refine ap (k := 1) (news := gcf ((⟨a9, c9⟩ : GC), (k, x))) Tryz.underlying35 I72 rfl rfl hr (fun _ => (.tail (.tail .head))) (src_says Tryz.underlying35 rfl (fun _ => Says.own .head) (gcf_one _)) (by omega) (by unfold maxLen; omega) rfl (fun a12 c12 N12 r12 z12 => ?_)
 refine dN (.skip (.keep .nil)) hle2 ?_
 refine dT 8 rfl rfl rfl (by kernel_rfl) (fun _ _ _ h => h) (y_fa0 F37_4 rfl) (.skip (.keep .nil)) hle2 ?_
 refine dE 9 (by kernel_rfl) rfl ?_
 refine st Tryz.sizeOf35 rfl rfl rfl rfl (.tail .head) ?_
 refine dNk (by kernel_rfl) ?_
 refine dD (by kernel_rfl) ?_
 refine drN .head ?_
 exact fun _ _ hA hw => rn rfl hle2 ⟨_, _, _, ⟨a9, c9⟩, rfl, r12, ⟨hbq, h0, h1⟩⟩ hA hw
theorem tc_304 {H : Fz} {L : Own} {tb : Nat} {c0 c1 c2 c3 : Value} {a va : Option Addr} {m cap vc : Nat} {xs : List Value} {k : Int} {x : List UInt8} {N : Chunk} (hr : Row 72 2 a m cap xs N) (hm : m ≤ 1000000000000) (hx : BytesAt H va vc x) (hxl : x.length ≤ 1000000000000) (h0 : 0 ≤ k) (h1 : k < 4294967296) :
  Fn Tryz.prog 304 [.int .u32 k, .slice va x.length vc, .pointer (some ⟨tb, 0, none⟩)] H ([(tb, .cells [c0, c1, c2, c3, .slice a m cap].toArray 37 (0, 0))] :: N :: L) (fun _ H' L' => ∃ a' cap' N' g, L' = [(tb, .cells [c0, c1, c2, c3, .slice a' (m + 1) cap'].toArray 37 (0, 0))] :: N' :: L ∧ Row 72 2 a' (m + 1) cap' (xs ++ gcf (g, (k, x))) N' ∧ TagAt H' g (k, x)) := by
 refine Fn.mk Tryz.call304 Tryz.func304 rfl Tryz.ntmps304 rfl ?_
 refine rgD 9 (.keep .nil) mixed ?_
 refine dT 0 rfl rfl rfl (by kernel_rfl) (fun _ _ _ h => h) (y_fa0 F37_4 rfl) (.keep .nil) (Fz.le.refl _) ?_
 refine dT 1 rfl rfl rfl (by kernel_rfl) (fun _ _ _ h => h) (y_ld (Says.own .head) Tryz.isAgg35 rfl (Nat.zero_add _).symm rfl) (.keep .nil) (Fz.le.refl _) ?_
 refine dT 2 rfl rfl rfl (by kernel_rfl) (fun _ _ _ h => h) (y_mv rfl) (.keep .nil) (Fz.le.refl _) ?_
 refine dT 3 rfl rfl rfl (by kernel_rfl) (fun _ _ _ h => h) (y_mv rfl) (.keep .nil) (Fz.le.refl _) ?_
 refine dE 4 (by kernel_rfl) rfl ?_
 have hbd9 : x.length ≤ 1000000000000 := hxl
 refine apn (news := bytesOf x) Tryz.underlying22 I5 rfl rfl (src_bytes Tryz.underlying22 hx rfl) (by omega) (by unfold maxLen; omega) rfl (fun a9 c9 N9 r9 => ?_)
 refine frL r9 .head (fun H2 hle2 hz => ?_)
 have hbq := BytesAt.row hz r9 (by unfold B47; omega)
 refine dN (.keep .nil) hle2 ?_
 refine dT 5 rfl rfl rfl (by kernel_rfl) (fun _ _ _ h => h) (y_bd S72 rfl rfl) (.keep .nil) hle2 ?_
 refine dE 6 (by kernel_rfl) rfl ?_
 refine bs' L35 rfl rfl rfl rfl (fun b_1 => ?_)
 refine dN (.skip (.keep .nil)) hle2 ?_
 refine dE 7 (by kernel_rfl) rfl ?_
 refine ap (k := 1) (news := gcf ((⟨a9, c9⟩ : GC), (k, x))) Tryz.underlying35 I72 rfl rfl hr (fun _ => (.tail (.tail .head))) (src_says Tryz.underlying35 rfl (fun _ => Says.own .head) (gcf_one _)) (by omega) (by unfold maxLen; omega) rfl (fun a12 c12 N12 r12 z12 => ?_)
 refine dN (.skip (.keep .nil)) hle2 ?_
 refine dT 8 rfl rfl rfl (by kernel_rfl) (fun _ _ _ h => h) (y_fa0 F37_4 rfl) (.skip (.keep .nil)) hle2 ?_
 refine dE 9 (by kernel_rfl) rfl ?_
 refine st Tryz.sizeOf35 rfl rfl rfl rfl (.tail .head) ?_
 refine dNk (by kernel_rfl) ?_
 refine dD (by kernel_rfl) ?_
 refine drN .head ?_
 exact fun _ _ hA hw => rn rfl hle2 ⟨_, _, _, ⟨a9, c9⟩, rfl, r12, ⟨hbq, h0, h1⟩⟩ hA hw
theorem tc_306 {H : Fz} {L : Own} {tb : Nat} {c0 c1 c2 c3 : Value} {a va : Option Addr} {m cap vc : Nat} {xs : List Value} {k : Int} {x : List UInt8} {N : Chunk} (hr : Row 72 2 a m cap xs N) (hm : m ≤ 1000000000000) (hx : BytesAt H va vc x) (hxl : x.length ≤ 1000000000000) (h0 : 0 ≤ k) (h1 : k < 4294967296) :
  Fn Tryz.prog 306 [.int .u32 k, .slice va x.length vc, .pointer (some ⟨tb, 0, none⟩)] H ([(tb, .cells [c0, c1, c2, c3, .slice a m cap].toArray 37 (0, 0))] :: N :: L) (fun _ H' L' => ∃ a' cap' N' g, L' = [(tb, .cells [c0, c1, c2, c3, .slice a' (m + 1) cap'].toArray 37 (0, 0))] :: N' :: L ∧ Row 72 2 a' (m + 1) cap' (xs ++ gcf (g, (k, x))) N' ∧ TagAt H' g (k, x)) := by
 refine Fn.mk Tryz.call306 Tryz.func306 rfl Tryz.ntmps306 rfl ?_
 refine rgD 9 (.keep .nil) mixed ?_
 refine dT 0 rfl rfl rfl (by kernel_rfl) (fun _ _ _ h => h) (y_fa0 F37_4 rfl) (.keep .nil) (Fz.le.refl _) ?_
 refine dT 1 rfl rfl rfl (by kernel_rfl) (fun _ _ _ h => h) (y_ld (Says.own .head) Tryz.isAgg35 rfl (Nat.zero_add _).symm rfl) (.keep .nil) (Fz.le.refl _) ?_
 refine dT 2 rfl rfl rfl (by kernel_rfl) (fun _ _ _ h => h) (y_mv rfl) (.keep .nil) (Fz.le.refl _) ?_
 refine dT 3 rfl rfl rfl (by kernel_rfl) (fun _ _ _ h => h) (y_mv rfl) (.keep .nil) (Fz.le.refl _) ?_
 refine dE 4 (by kernel_rfl) rfl ?_
 have hbd9 : x.length ≤ 1000000000000 := hxl
 refine apn (news := bytesOf x) Tryz.underlying22 I5 rfl rfl (src_bytes Tryz.underlying22 hx rfl) (by omega) (by unfold maxLen; omega) rfl (fun a9 c9 N9 r9 => ?_)
 refine frL r9 .head (fun H2 hle2 hz => ?_)
 have hbq := BytesAt.row hz r9 (by unfold B47; omega)
 refine dN (.keep .nil) hle2 ?_
 refine dT 5 rfl rfl rfl (by kernel_rfl) (fun _ _ _ h => h) (y_bd S72 rfl rfl) (.keep .nil) hle2 ?_
 refine dE 6 (by kernel_rfl) rfl ?_
 refine bs' L35 rfl rfl rfl rfl (fun b_1 => ?_)
 refine dN (.skip (.keep .nil)) hle2 ?_
 refine dE 7 (by kernel_rfl) rfl ?_
 refine ap (k := 1) (news := gcf ((⟨a9, c9⟩ : GC), (k, x))) Tryz.underlying35 I72 rfl rfl hr (fun _ => (.tail (.tail .head))) (src_says Tryz.underlying35 rfl (fun _ => Says.own .head) (gcf_one _)) (by omega) (by unfold maxLen; omega) rfl (fun a12 c12 N12 r12 z12 => ?_)
 refine dN (.skip (.keep .nil)) hle2 ?_
 refine dT 8 rfl rfl rfl (by kernel_rfl) (fun _ _ _ h => h) (y_fa0 F37_4 rfl) (.skip (.keep .nil)) hle2 ?_
 refine dE 9 (by kernel_rfl) rfl ?_
 refine st Tryz.sizeOf35 rfl rfl rfl rfl (.tail .head) ?_
 refine dNk (by kernel_rfl) ?_
 refine dD (by kernel_rfl) ?_
 refine drN .head ?_
 exact fun _ _ hA hw => rn rfl hle2 ⟨_, _, _, ⟨a9, c9⟩, rfl, r12, ⟨hbq, h0, h1⟩⟩ hA hw
theorem tc_307 {H : Fz} {L : Own} {tb : Nat} {c0 c1 c2 c3 : Value} {a va : Option Addr} {m cap vc : Nat} {xs : List Value} {k : Int} {x : List UInt8} {N : Chunk} (hr : Row 72 2 a m cap xs N) (hm : m ≤ 1000000000000) (hx : BytesAt H va vc x) (hxl : x.length ≤ 1000000000000) (h0 : 0 ≤ k) (h1 : k < 4294967296) :
  Fn Tryz.prog 307 [.int .u32 k, .slice va x.length vc, .pointer (some ⟨tb, 0, none⟩)] H ([(tb, .cells [c0, c1, c2, c3, .slice a m cap].toArray 37 (0, 0))] :: N :: L) (fun _ H' L' => ∃ a' cap' N' g, L' = [(tb, .cells [c0, c1, c2, c3, .slice a' (m + 1) cap'].toArray 37 (0, 0))] :: N' :: L ∧ Row 72 2 a' (m + 1) cap' (xs ++ gcf (g, (k, x))) N' ∧ TagAt H' g (k, x)) := by
 refine Fn.mk Tryz.call307 Tryz.func307 rfl Tryz.ntmps307 rfl ?_
 refine rgD 9 (.keep .nil) mixed ?_
 refine dT 0 rfl rfl rfl (by kernel_rfl) (fun _ _ _ h => h) (y_fa0 F37_4 rfl) (.keep .nil) (Fz.le.refl _) ?_
 refine dT 1 rfl rfl rfl (by kernel_rfl) (fun _ _ _ h => h) (y_ld (Says.own .head) Tryz.isAgg35 rfl (Nat.zero_add _).symm rfl) (.keep .nil) (Fz.le.refl _) ?_
 refine dT 2 rfl rfl rfl (by kernel_rfl) (fun _ _ _ h => h) (y_mv rfl) (.keep .nil) (Fz.le.refl _) ?_
 refine dT 3 rfl rfl rfl (by kernel_rfl) (fun _ _ _ h => h) (y_mv rfl) (.keep .nil) (Fz.le.refl _) ?_
 refine dE 4 (by kernel_rfl) rfl ?_
 have hbd9 : x.length ≤ 1000000000000 := hxl
 refine apn (news := bytesOf x) Tryz.underlying22 I5 rfl rfl (src_bytes Tryz.underlying22 hx rfl) (by omega) (by unfold maxLen; omega) rfl (fun a9 c9 N9 r9 => ?_)
 refine frL r9 .head (fun H2 hle2 hz => ?_)
 have hbq := BytesAt.row hz r9 (by unfold B47; omega)
 refine dN (.keep .nil) hle2 ?_
 refine dT 5 rfl rfl rfl (by kernel_rfl) (fun _ _ _ h => h) (y_bd S72 rfl rfl) (.keep .nil) hle2 ?_
 refine dE 6 (by kernel_rfl) rfl ?_
 refine bs' L35 rfl rfl rfl rfl (fun b_1 => ?_)
 refine dN (.skip (.keep .nil)) hle2 ?_
 refine dE 7 (by kernel_rfl) rfl ?_
 refine ap (k := 1) (news := gcf ((⟨a9, c9⟩ : GC), (k, x))) Tryz.underlying35 I72 rfl rfl hr (fun _ => (.tail (.tail .head))) (src_says Tryz.underlying35 rfl (fun _ => Says.own .head) (gcf_one _)) (by omega) (by unfold maxLen; omega) rfl (fun a12 c12 N12 r12 z12 => ?_)
 refine dN (.skip (.keep .nil)) hle2 ?_
 refine dT 8 rfl rfl rfl (by kernel_rfl) (fun _ _ _ h => h) (y_fa0 F37_4 rfl) (.skip (.keep .nil)) hle2 ?_
 refine dE 9 (by kernel_rfl) rfl ?_
 refine st Tryz.sizeOf35 rfl rfl rfl rfl (.tail .head) ?_
 refine dNk (by kernel_rfl) ?_
 refine dD (by kernel_rfl) ?_
 refine drN .head ?_
 exact fun _ _ hA hw => rn rfl hle2 ⟨_, _, _, ⟨a9, c9⟩, rfl, r12, ⟨hbq, h0, h1⟩⟩ hA hw
theorem tc_310 {H : Fz} {L : Own} {tb : Nat} {c0 c1 c2 c3 : Value} {a va : Option Addr} {m cap vc : Nat} {xs : List Value} {k : Int} {x : List UInt8} {N : Chunk} (hr : Row 72 2 a m cap xs N) (hm : m ≤ 1000000000000) (hx : BytesAt H va vc x) (hxl : x.length ≤ 1000000000000) (h0 : 0 ≤ k) (h1 : k < 4294967296) :
  Fn Tryz.prog 310 [.int .u32 k, .slice va x.length vc, .pointer (some ⟨tb, 0, none⟩)] H ([(tb, .cells [c0, c1, c2, c3, .slice a m cap].toArray 37 (0, 0))] :: N :: L) (fun _ H' L' => ∃ a' cap' N' g, L' = [(tb, .cells [c0, c1, c2, c3, .slice a' (m + 1) cap'].toArray 37 (0, 0))] :: N' :: L ∧ Row 72 2 a' (m + 1) cap' (xs ++ gcf (g, (k, x))) N' ∧ TagAt H' g (k, x)) := by
 refine Fn.mk Tryz.call310 Tryz.func310 rfl Tryz.ntmps310 rfl ?_
 refine rgD 9 (.keep .nil) mixed ?_
 refine dT 0 rfl rfl rfl (by kernel_rfl) (fun _ _ _ h => h) (y_fa0 F37_4 rfl) (.keep .nil) (Fz.le.refl _) ?_
 refine dT 1 rfl rfl rfl (by kernel_rfl) (fun _ _ _ h => h) (y_ld (Says.own .head) Tryz.isAgg35 rfl (Nat.zero_add _).symm rfl) (.keep .nil) (Fz.le.refl _) ?_
 refine dT 2 rfl rfl rfl (by kernel_rfl) (fun _ _ _ h => h) (y_mv rfl) (.keep .nil) (Fz.le.refl _) ?_
 refine dT 3 rfl rfl rfl (by kernel_rfl) (fun _ _ _ h => h) (y_mv rfl) (.keep .nil) (Fz.le.refl _) ?_
 refine dE 4 (by kernel_rfl) rfl ?_
 have hbd9 : x.length ≤ 1000000000000 := hxl
 refine apn (news := bytesOf x) Tryz.underlying22 I5 rfl rfl (src_bytes Tryz.underlying22 hx rfl) (by omega) (by unfold maxLen; omega) rfl (fun a9 c9 N9 r9 => ?_)
 refine frL r9 .head (fun H2 hle2 hz => ?_)
 have hbq := BytesAt.row hz r9 (by unfold B47; omega)
 refine dN (.keep .nil) hle2 ?_
 refine dT 5 rfl rfl rfl (by kernel_rfl) (fun _ _ _ h => h) (y_bd S72 rfl rfl) (.keep .nil) hle2 ?_
 refine dE 6 (by kernel_rfl) rfl ?_
 refine bs' L35 rfl rfl rfl rfl (fun b_1 => ?_)
 refine dN (.skip (.keep .nil)) hle2 ?_
 refine dE 7 (by kernel_rfl) rfl ?_
 refine ap (k := 1) (news := gcf ((⟨a9, c9⟩ : GC), (k, x))) Tryz.underlying35 I72 rfl rfl hr (fun _ => (.tail (.tail .head))) (src_says Tryz.underlying35 rfl (fun _ => Says.own .head) (gcf_one _)) (by omega) (by unfold maxLen; omega) rfl (fun a12 c12 N12 r12 z12 => ?_)
 refine dN (.skip (.keep .nil)) hle2 ?_
 refine dT 8 rfl rfl rfl (by kernel_rfl) (fun _ _ _ h => h) (y_fa0 F37_4 rfl) (.skip (.keep .nil)) hle2 ?_
 refine dE 9 (by kernel_rfl) rfl ?_
 refine st Tryz.sizeOf35 rfl rfl rfl rfl (.tail .head) ?_
 refine dNk (by kernel_rfl) ?_
 refine dD (by kernel_rfl) ?_
 refine drN .head ?_
 exact fun _ _ hA hw => rn rfl hle2 ⟨_, _, _, ⟨a9, c9⟩, rfl, r12, ⟨hbq, h0, h1⟩⟩ hA hw
theorem tc_312 {H : Fz} {L : Own} {tb : Nat} {c0 c1 c2 c3 : Value} {a va : Option Addr} {m cap vc : Nat} {xs : List Value} {k : Int} {x : List UInt8} {N : Chunk} (hr : Row 72 2 a m cap xs N) (hm : m ≤ 1000000000000) (hx : BytesAt H va vc x) (hxl : x.length ≤ 1000000000000) (h0 : 0 ≤ k) (h1 : k < 4294967296) :
  Fn Tryz.prog 312 [.int .u32 k, .slice va x.length vc, .pointer (some ⟨tb, 0, none⟩)] H ([(tb, .cells [c0, c1, c2, c3, .slice a m cap].toArray 37 (0, 0))] :: N :: L) (fun _ H' L' => ∃ a' cap' N' g, L' = [(tb, .cells [c0, c1, c2, c3, .slice a' (m + 1) cap'].toArray 37 (0, 0))] :: N' :: L ∧ Row 72 2 a' (m + 1) cap' (xs ++ gcf (g, (k, x))) N' ∧ TagAt H' g (k, x)) := by
 refine Fn.mk Tryz.call312 Tryz.func312 rfl Tryz.ntmps312 rfl ?_
 refine rgD 9 (.keep .nil) mixed ?_
 refine dT 0 rfl rfl rfl (by kernel_rfl) (fun _ _ _ h => h) (y_fa0 F37_4 rfl) (.keep .nil) (Fz.le.refl _) ?_
 refine dT 1 rfl rfl rfl (by kernel_rfl) (fun _ _ _ h => h) (y_ld (Says.own .head) Tryz.isAgg35 rfl (Nat.zero_add _).symm rfl) (.keep .nil) (Fz.le.refl _) ?_
 refine dT 2 rfl rfl rfl (by kernel_rfl) (fun _ _ _ h => h) (y_mv rfl) (.keep .nil) (Fz.le.refl _) ?_
 refine dT 3 rfl rfl rfl (by kernel_rfl) (fun _ _ _ h => h) (y_mv rfl) (.keep .nil) (Fz.le.refl _) ?_
 refine dE 4 (by kernel_rfl) rfl ?_
 have hbd9 : x.length ≤ 1000000000000 := hxl
 refine apn (news := bytesOf x) Tryz.underlying22 I5 rfl rfl (src_bytes Tryz.underlying22 hx rfl) (by omega) (by unfold maxLen; omega) rfl (fun a9 c9 N9 r9 => ?_)
 refine frL r9 .head (fun H2 hle2 hz => ?_)
 have hbq := BytesAt.row hz r9 (by unfold B47; omega)
 refine dN (.keep .nil) hle2 ?_
 refine dT 5 rfl rfl rfl (by kernel_rfl) (fun _ _ _ h => h) (y_bd S72 rfl rfl) (.keep .nil) hle2 ?_
 refine dE 6 (by kernel_rfl) rfl ?_
 refine bs' L35 rfl rfl rfl rfl (fun b_1 => ?_)
 refine dN (.skip (.keep .nil)) hle2 ?_
 refine dE 7 (by kernel_rfl) rfl ?_
 refine ap (k := 1) (news := gcf ((⟨a9, c9⟩ : GC), (k, x))) Tryz.underlying35 I72 rfl rfl hr (fun _ => (.tail (.tail .head))) (src_says Tryz.underlying35 rfl (fun _ => Says.own .head) (gcf_one _)) (by omega) (by unfold maxLen; omega) rfl (fun a12 c12 N12 r12 z12 => ?_)
 refine dN (.skip (.keep .nil)) hle2 ?_
 refine dT 8 rfl rfl rfl (by kernel_rfl) (fun _ _ _ h => h) (y_fa0 F37_4 rfl) (.skip (.keep .nil)) hle2 ?_
 refine dE 9 (by kernel_rfl) rfl ?_
 refine st Tryz.sizeOf35 rfl rfl rfl rfl (.tail .head) ?_
 refine dNk (by kernel_rfl) ?_
 refine dD (by kernel_rfl) ?_
 refine drN .head ?_
 exact fun _ _ hA hw => rn rfl hle2 ⟨_, _, _, ⟨a9, c9⟩, rfl, r12, ⟨hbq, h0, h1⟩⟩ hA hw
theorem tc_313 {H : Fz} {L : Own} {tb : Nat} {c0 c1 c2 c3 : Value} {a va : Option Addr} {m cap vc : Nat} {xs : List Value} {k : Int} {x : List UInt8} {N : Chunk} (hr : Row 72 2 a m cap xs N) (hm : m ≤ 1000000000000) (hx : BytesAt H va vc x) (hxl : x.length ≤ 1000000000000) (h0 : 0 ≤ k) (h1 : k < 4294967296) :
  Fn Tryz.prog 313 [.int .u32 k, .slice va x.length vc, .pointer (some ⟨tb, 0, none⟩)] H ([(tb, .cells [c0, c1, c2, c3, .slice a m cap].toArray 37 (0, 0))] :: N :: L) (fun _ H' L' => ∃ a' cap' N' g, L' = [(tb, .cells [c0, c1, c2, c3, .slice a' (m + 1) cap'].toArray 37 (0, 0))] :: N' :: L ∧ Row 72 2 a' (m + 1) cap' (xs ++ gcf (g, (k, x))) N' ∧ TagAt H' g (k, x)) := by
 refine Fn.mk Tryz.call313 Tryz.func313 rfl Tryz.ntmps313 rfl ?_
 refine rgD 9 (.keep .nil) mixed ?_
 refine dT 0 rfl rfl rfl (by kernel_rfl) (fun _ _ _ h => h) (y_fa0 F37_4 rfl) (.keep .nil) (Fz.le.refl _) ?_
 refine dT 1 rfl rfl rfl (by kernel_rfl) (fun _ _ _ h => h) (y_ld (Says.own .head) Tryz.isAgg35 rfl (Nat.zero_add _).symm rfl) (.keep .nil) (Fz.le.refl _) ?_
 refine dT 2 rfl rfl rfl (by kernel_rfl) (fun _ _ _ h => h) (y_mv rfl) (.keep .nil) (Fz.le.refl _) ?_
 refine dT 3 rfl rfl rfl (by kernel_rfl) (fun _ _ _ h => h) (y_mv rfl) (.keep .nil) (Fz.le.refl _) ?_
 refine dE 4 (by kernel_rfl) rfl ?_
 have hbd9 : x.length ≤ 1000000000000 := hxl
 refine apn (news := bytesOf x) Tryz.underlying22 I5 rfl rfl (src_bytes Tryz.underlying22 hx rfl) (by omega) (by unfold maxLen; omega) rfl (fun a9 c9 N9 r9 => ?_)
 refine frL r9 .head (fun H2 hle2 hz => ?_)
 have hbq := BytesAt.row hz r9 (by unfold B47; omega)
 refine dN (.keep .nil) hle2 ?_
 refine dT 5 rfl rfl rfl (by kernel_rfl) (fun _ _ _ h => h) (y_bd S72 rfl rfl) (.keep .nil) hle2 ?_
 refine dE 6 (by kernel_rfl) rfl ?_
 refine bs' L35 rfl rfl rfl rfl (fun b_1 => ?_)
 refine dN (.skip (.keep .nil)) hle2 ?_
 refine dE 7 (by kernel_rfl) rfl ?_
 refine ap (k := 1) (news := gcf ((⟨a9, c9⟩ : GC), (k, x))) Tryz.underlying35 I72 rfl rfl hr (fun _ => (.tail (.tail .head))) (src_says Tryz.underlying35 rfl (fun _ => Says.own .head) (gcf_one _)) (by omega) (by unfold maxLen; omega) rfl (fun a12 c12 N12 r12 z12 => ?_)
 refine dN (.skip (.keep .nil)) hle2 ?_
 refine dT 8 rfl rfl rfl (by kernel_rfl) (fun _ _ _ h => h) (y_fa0 F37_4 rfl) (.skip (.keep .nil)) hle2 ?_
 refine dE 9 (by kernel_rfl) rfl ?_
 refine st Tryz.sizeOf35 rfl rfl rfl rfl (.tail .head) ?_
 refine dNk (by kernel_rfl) ?_
 refine dD (by kernel_rfl) ?_
 refine drN .head ?_
 exact fun _ _ hA hw => rn rfl hle2 ⟨_, _, _, ⟨a9, c9⟩, rfl, r12, ⟨hbq, h0, h1⟩⟩ hA hw
theorem tc_316 {H : Fz} {L : Own} {tb : Nat} {c0 c1 c2 c3 : Value} {a va : Option Addr} {m cap vc : Nat} {xs : List Value} {k : Int} {x : List UInt8} {N : Chunk} (hr : Row 72 2 a m cap xs N) (hm : m ≤ 1000000000000) (hx : BytesAt H va vc x) (hxl : x.length ≤ 1000000000000) (h0 : 0 ≤ k) (h1 : k < 4294967296) :
  Fn Tryz.prog 316 [.int .u32 k, .slice va x.length vc, .pointer (some ⟨tb, 0, none⟩)] H ([(tb, .cells [c0, c1, c2, c3, .slice a m cap].toArray 37 (0, 0))] :: N :: L) (fun _ H' L' => ∃ a' cap' N' g, L' = [(tb, .cells [c0, c1, c2, c3, .slice a' (m + 1) cap'].toArray 37 (0, 0))] :: N' :: L ∧ Row 72 2 a' (m + 1) cap' (xs ++ gcf (g, (k, x))) N' ∧ TagAt H' g (k, x)) := by
 refine Fn.mk Tryz.call316 Tryz.func316 rfl Tryz.ntmps316 rfl ?_
 refine rgD 9 (.keep .nil) mixed ?_
 refine dT 0 rfl rfl rfl (by kernel_rfl) (fun _ _ _ h => h) (y_fa0 F37_4 rfl) (.keep .nil) (Fz.le.refl _) ?_
 refine dT 1 rfl rfl rfl (by kernel_rfl) (fun _ _ _ h => h) (y_ld (Says.own .head) Tryz.isAgg35 rfl (Nat.zero_add _).symm rfl) (.keep .nil) (Fz.le.refl _) ?_
 refine dT 2 rfl rfl rfl (by kernel_rfl) (fun _ _ _ h => h) (y_mv rfl) (.keep .nil) (Fz.le.refl _) ?_
 refine dT 3 rfl rfl rfl (by kernel_rfl) (fun _ _ _ h => h) (y_mv rfl) (.keep .nil) (Fz.le.refl _) ?_
 refine dE 4 (by kernel_rfl) rfl ?_
 have hbd9 : x.length ≤ 1000000000000 := hxl
 refine apn (news := bytesOf x) Tryz.underlying22 I5 rfl rfl (src_bytes Tryz.underlying22 hx rfl) (by omega) (by unfold maxLen; omega) rfl (fun a9 c9 N9 r9 => ?_)
 refine frL r9 .head (fun H2 hle2 hz => ?_)
 have hbq := BytesAt.row hz r9 (by unfold B47; omega)
 refine dN (.keep .nil) hle2 ?_
 refine dT 5 rfl rfl rfl (by kernel_rfl) (fun _ _ _ h => h) (y_bd S72 rfl rfl) (.keep .nil) hle2 ?_
 refine dE 6 (by kernel_rfl) rfl ?_
 refine bs' L35 rfl rfl rfl rfl (fun b_1 => ?_)
 refine dN (.skip (.keep .nil)) hle2 ?_
 refine dE 7 (by kernel_rfl) rfl ?_
 refine ap (k := 1) (news := gcf ((⟨a9, c9⟩ : GC), (k, x))) Tryz.underlying35 I72 rfl rfl hr (fun _ => (.tail (.tail .head))) (src_says Tryz.underlying35 rfl (fun _ => Says.own .head) (gcf_one _)) (by omega) (by unfold maxLen; omega) rfl (fun a12 c12 N12 r12 z12 => ?_)
 refine dN (.skip (.keep .nil)) hle2 ?_
 refine dT 8 rfl rfl rfl (by kernel_rfl) (fun _ _ _ h => h) (y_fa0 F37_4 rfl) (.skip (.keep .nil)) hle2 ?_
 refine dE 9 (by kernel_rfl) rfl ?_
 refine st Tryz.sizeOf35 rfl rfl rfl rfl (.tail .head) ?_
 refine dNk (by kernel_rfl) ?_
 refine dD (by kernel_rfl) ?_
 refine drN .head ?_
 exact fun _ _ hA hw => rn rfl hle2 ⟨_, _, _, ⟨a9, c9⟩, rfl, r12, ⟨hbq, h0, h1⟩⟩ hA hw
theorem tc_318 {H : Fz} {L : Own} {tb : Nat} {c0 c1 c2 c3 : Value} {a va : Option Addr} {m cap vc : Nat} {xs : List Value} {k : Int} {x : List UInt8} {N : Chunk} (hr : Row 72 2 a m cap xs N) (hm : m ≤ 1000000000000) (hx : BytesAt H va vc x) (hxl : x.length ≤ 1000000000000) (h0 : 0 ≤ k) (h1 : k < 4294967296) :
  Fn Tryz.prog 318 [.int .u32 k, .slice va x.length vc, .pointer (some ⟨tb, 0, none⟩)] H ([(tb, .cells [c0, c1, c2, c3, .slice a m cap].toArray 37 (0, 0))] :: N :: L) (fun _ H' L' => ∃ a' cap' N' g, L' = [(tb, .cells [c0, c1, c2, c3, .slice a' (m + 1) cap'].toArray 37 (0, 0))] :: N' :: L ∧ Row 72 2 a' (m + 1) cap' (xs ++ gcf (g, (k, x))) N' ∧ TagAt H' g (k, x)) := by
 refine Fn.mk Tryz.call318 Tryz.func318 rfl Tryz.ntmps318 rfl ?_
 refine rgD 9 (.keep .nil) mixed ?_
 refine dT 0 rfl rfl rfl (by kernel_rfl) (fun _ _ _ h => h) (y_fa0 F37_4 rfl) (.keep .nil) (Fz.le.refl _) ?_
 refine dT 1 rfl rfl rfl (by kernel_rfl) (fun _ _ _ h => h) (y_ld (Says.own .head) Tryz.isAgg35 rfl (Nat.zero_add _).symm rfl) (.keep .nil) (Fz.le.refl _) ?_
 refine dT 2 rfl rfl rfl (by kernel_rfl) (fun _ _ _ h => h) (y_mv rfl) (.keep .nil) (Fz.le.refl _) ?_
 refine dT 3 rfl rfl rfl (by kernel_rfl) (fun _ _ _ h => h) (y_mv rfl) (.keep .nil) (Fz.le.refl _) ?_
 refine dE 4 (by kernel_rfl) rfl ?_
 have hbd9 : x.length ≤ 1000000000000 := hxl
 refine apn (news := bytesOf x) Tryz.underlying22 I5 rfl rfl (src_bytes Tryz.underlying22 hx rfl) (by omega) (by unfold maxLen; omega) rfl (fun a9 c9 N9 r9 => ?_)
 refine frL r9 .head (fun H2 hle2 hz => ?_)
 have hbq := BytesAt.row hz r9 (by unfold B47; omega)
 refine dN (.keep .nil) hle2 ?_
 refine dT 5 rfl rfl rfl (by kernel_rfl) (fun _ _ _ h => h) (y_bd S72 rfl rfl) (.keep .nil) hle2 ?_
 refine dE 6 (by kernel_rfl) rfl ?_
 refine bs' L35 rfl rfl rfl rfl (fun b_1 => ?_)
 refine dN (.skip (.keep .nil)) hle2 ?_
 refine dE 7 (by kernel_rfl) rfl ?_
 refine ap (k := 1) (news := gcf ((⟨a9, c9⟩ : GC), (k, x))) Tryz.underlying35 I72 rfl rfl hr (fun _ => (.tail (.tail .head))) (src_says Tryz.underlying35 rfl (fun _ => Says.own .head) (gcf_one _)) (by omega) (by unfold maxLen; omega) rfl (fun a12 c12 N12 r12 z12 => ?_)
 refine dN (.skip (.keep .nil)) hle2 ?_
 refine dT 8 rfl rfl rfl (by kernel_rfl) (fun _ _ _ h => h) (y_fa0 F37_4 rfl) (.skip (.keep .nil)) hle2 ?_
 refine dE 9 (by kernel_rfl) rfl ?_
 refine st Tryz.sizeOf35 rfl rfl rfl rfl (.tail .head) ?_
 refine dNk (by kernel_rfl) ?_
 refine dD (by kernel_rfl) ?_
 refine drN .head ?_
 exact fun _ _ hA hw => rn rfl hle2 ⟨_, _, _, ⟨a9, c9⟩, rfl, r12, ⟨hbq, h0, h1⟩⟩ hA hw
theorem tc_339 {H : Fz} {L : Own} {tb : Nat} {c0 c1 c2 c3 : Value} {a va : Option Addr} {m cap vc : Nat} {xs : List Value} {k : Int} {x : List UInt8} {N : Chunk} (hr : Row 72 2 a m cap xs N) (hm : m ≤ 1000000000000) (hx : BytesAt H va vc x) (hxl : x.length ≤ 1000000000000) (h0 : 0 ≤ k) (h1 : k < 4294967296) :
  Fn Tryz.prog 339 [.int .u32 k, .slice va x.length vc, .pointer (some ⟨tb, 0, none⟩)] H ([(tb, .cells [c0, c1, c2, c3, .slice a m cap].toArray 37 (0, 0))] :: N :: L) (fun _ H' L' => ∃ a' cap' N' g, L' = [(tb, .cells [c0, c1, c2, c3, .slice a' (m + 1) cap'].toArray 37 (0, 0))] :: N' :: L ∧ Row 72 2 a' (m + 1) cap' (xs ++ gcf (g, (k, x))) N' ∧ TagAt H' g (k, x)) := by
 refine Fn.mk Tryz.call339 Tryz.func339 rfl Tryz.ntmps339 rfl ?_
 refine rgD 9 (.keep .nil) mixed ?_
 refine dT 0 rfl rfl rfl (by kernel_rfl) (fun _ _ _ h => h) (y_fa0 F37_4 rfl) (.keep .nil) (Fz.le.refl _) ?_
 refine dT 1 rfl rfl rfl (by kernel_rfl) (fun _ _ _ h => h) (y_ld (Says.own .head) Tryz.isAgg35 rfl (Nat.zero_add _).symm rfl) (.keep .nil) (Fz.le.refl _) ?_
 refine dT 2 rfl rfl rfl (by kernel_rfl) (fun _ _ _ h => h) (y_mv rfl) (.keep .nil) (Fz.le.refl _) ?_
 refine dT 3 rfl rfl rfl (by kernel_rfl) (fun _ _ _ h => h) (y_mv rfl) (.keep .nil) (Fz.le.refl _) ?_
 refine dE 4 (by kernel_rfl) rfl ?_
 have hbd9 : x.length ≤ 1000000000000 := hxl
 refine apn (news := bytesOf x) Tryz.underlying22 I5 rfl rfl (src_bytes Tryz.underlying22 hx rfl) (by omega) (by unfold maxLen; omega) rfl (fun a9 c9 N9 r9 => ?_)
 refine frL r9 .head (fun H2 hle2 hz => ?_)
 have hbq := BytesAt.row hz r9 (by unfold B47; omega)
 refine dN (.keep .nil) hle2 ?_
 refine dT 5 rfl rfl rfl (by kernel_rfl) (fun _ _ _ h => h) (y_bd S72 rfl rfl) (.keep .nil) hle2 ?_
 refine dE 6 (by kernel_rfl) rfl ?_
 refine bs' L35 rfl rfl rfl rfl (fun b_1 => ?_)
 refine dN (.skip (.keep .nil)) hle2 ?_
 refine dE 7 (by kernel_rfl) rfl ?_
 refine ap (k := 1) (news := gcf ((⟨a9, c9⟩ : GC), (k, x))) Tryz.underlying35 I72 rfl rfl hr (fun _ => (.tail (.tail .head))) (src_says Tryz.underlying35 rfl (fun _ => Says.own .head) (gcf_one _)) (by omega) (by unfold maxLen; omega) rfl (fun a12 c12 N12 r12 z12 => ?_)
 refine dN (.skip (.keep .nil)) hle2 ?_
 refine dT 8 rfl rfl rfl (by kernel_rfl) (fun _ _ _ h => h) (y_fa0 F37_4 rfl) (.skip (.keep .nil)) hle2 ?_
 refine dE 9 (by kernel_rfl) rfl ?_
 refine st Tryz.sizeOf35 rfl rfl rfl rfl (.tail .head) ?_
 refine dNk (by kernel_rfl) ?_
 refine dD (by kernel_rfl) ?_
 refine drN .head ?_
 exact fun _ _ hA hw => rn rfl hle2 ⟨_, _, _, ⟨a9, c9⟩, rfl, r12, ⟨hbq, h0, h1⟩⟩ hA hw
theorem tc_341 {H : Fz} {L : Own} {tb : Nat} {c0 c1 c2 c3 : Value} {a va : Option Addr} {m cap vc : Nat} {xs : List Value} {k : Int} {x : List UInt8} {N : Chunk} (hr : Row 72 2 a m cap xs N) (hm : m ≤ 1000000000000) (hx : BytesAt H va vc x) (hxl : x.length ≤ 1000000000000) (h0 : 0 ≤ k) (h1 : k < 4294967296) :
  Fn Tryz.prog 341 [.int .u32 k, .slice va x.length vc, .pointer (some ⟨tb, 0, none⟩)] H ([(tb, .cells [c0, c1, c2, c3, .slice a m cap].toArray 37 (0, 0))] :: N :: L) (fun _ H' L' => ∃ a' cap' N' g, L' = [(tb, .cells [c0, c1, c2, c3, .slice a' (m + 1) cap'].toArray 37 (0, 0))] :: N' :: L ∧ Row 72 2 a' (m + 1) cap' (xs ++ gcf (g, (k, x))) N' ∧ TagAt H' g (k, x)) := by
 refine Fn.mk Tryz.call341 Tryz.func341 rfl Tryz.ntmps341 rfl ?_
 refine rgD 9 (.keep .nil) mixed ?_
 refine dT 0 rfl rfl rfl (by kernel_rfl) (fun _ _ _ h => h) (y_fa0 F37_4 rfl) (.keep .nil) (Fz.le.refl _) ?_
 refine dT 1 rfl rfl rfl (by kernel_rfl) (fun _ _ _ h => h) (y_ld (Says.own .head) Tryz.isAgg35 rfl (Nat.zero_add _).symm rfl) (.keep .nil) (Fz.le.refl _) ?_
 refine dT 2 rfl rfl rfl (by kernel_rfl) (fun _ _ _ h => h) (y_mv rfl) (.keep .nil) (Fz.le.refl _) ?_
 refine dT 3 rfl rfl rfl (by kernel_rfl) (fun _ _ _ h => h) (y_mv rfl) (.keep .nil) (Fz.le.refl _) ?_
 refine dE 4 (by kernel_rfl) rfl ?_
 have hbd9 : x.length ≤ 1000000000000 := hxl
 refine apn (news := bytesOf x) Tryz.underlying22 I5 rfl rfl (src_bytes Tryz.underlying22 hx rfl) (by omega) (by unfold maxLen; omega) rfl (fun a9 c9 N9 r9 => ?_)
 refine frL r9 .head (fun H2 hle2 hz => ?_)
 have hbq := BytesAt.row hz r9 (by unfold B47; omega)
 refine dN (.keep .nil) hle2 ?_
 refine dT 5 rfl rfl rfl (by kernel_rfl) (fun _ _ _ h => h) (y_bd S72 rfl rfl) (.keep .nil) hle2 ?_
 refine dE 6 (by kernel_rfl) rfl ?_
 refine bs' L35 rfl rfl rfl rfl (fun b_1 => ?_)
 refine dN (.skip (.keep .nil)) hle2 ?_
 refine dE 7 (by kernel_rfl) rfl ?_
 refine ap (k := 1) (news := gcf ((⟨a9, c9⟩ : GC), (k, x))) Tryz.underlying35 I72 rfl rfl hr (fun _ => (.tail (.tail .head))) (src_says Tryz.underlying35 rfl (fun _ => Says.own .head) (gcf_one _)) (by omega) (by unfold maxLen; omega) rfl (fun a12 c12 N12 r12 z12 => ?_)
 refine dN (.skip (.keep .nil)) hle2 ?_
 refine dT 8 rfl rfl rfl (by kernel_rfl) (fun _ _ _ h => h) (y_fa0 F37_4 rfl) (.skip (.keep .nil)) hle2 ?_
 refine dE 9 (by kernel_rfl) rfl ?_
 refine st Tryz.sizeOf35 rfl rfl rfl rfl (.tail .head) ?_
 refine dNk (by kernel_rfl) ?_
 refine dD (by kernel_rfl) ?_
 refine drN .head ?_
 exact fun _ _ hA hw => rn rfl hle2 ⟨_, _, _, ⟨a9, c9⟩, rfl, r12, ⟨hbq, h0, h1⟩⟩ hA hw
theorem tc_342 {H : Fz} {L : Own} {tb : Nat} {c0 c1 c2 c3 : Value} {a va : Option Addr} {m cap vc : Nat} {xs : List Value} {k : Int} {x : List UInt8} {N : Chunk} (hr : Row 72 2 a m cap xs N) (hm : m ≤ 1000000000000) (hx : BytesAt H va vc x) (hxl : x.length ≤ 1000000000000) (h0 : 0 ≤ k) (h1 : k < 4294967296) :
  Fn Tryz.prog 342 [.int .u32 k, .slice va x.length vc, .pointer (some ⟨tb, 0, none⟩)] H ([(tb, .cells [c0, c1, c2, c3, .slice a m cap].toArray 37 (0, 0))] :: N :: L) (fun _ H' L' => ∃ a' cap' N' g, L' = [(tb, .cells [c0, c1, c2, c3, .slice a' (m + 1) cap'].toArray 37 (0, 0))] :: N' :: L ∧ Row 72 2 a' (m + 1) cap' (xs ++ gcf (g, (k, x))) N' ∧ TagAt H' g (k, x)) := by
 refine Fn.mk Tryz.call342 Tryz.func342 rfl Tryz.ntmps342 rfl ?_
 refine rgD 9 (.keep .nil) mixed ?_
 refine dT 0 rfl rfl rfl (by kernel_rfl) (fun _ _ _ h => h) (y_fa0 F37_4 rfl) (.keep .nil) (Fz.le.refl _) ?_
 refine dT 1 rfl rfl rfl (by kernel_rfl) (fun _ _ _ h => h) (y_ld (Says.own .head) Tryz.isAgg35 rfl (Nat.zero_add _).symm rfl) (.keep .nil) (Fz.le.refl _) ?_
 refine dT 2 rfl rfl rfl (by kernel_rfl) (fun _ _ _ h => h) (y_mv rfl) (.keep .nil) (Fz.le.refl _) ?_
 refine dT 3 rfl rfl rfl (by kernel_rfl) (fun _ _ _ h => h) (y_mv rfl) (.keep .nil) (Fz.le.refl _) ?_
 refine dE 4 (by kernel_rfl) rfl ?_
 have hbd9 : x.length ≤ 1000000000000 := hxl
 refine apn (news := bytesOf x) Tryz.underlying22 I5 rfl rfl (src_bytes Tryz.underlying22 hx rfl) (by omega) (by unfold maxLen; omega) rfl (fun a9 c9 N9 r9 => ?_)
 refine frL r9 .head (fun H2 hle2 hz => ?_)
 have hbq := BytesAt.row hz r9 (by unfold B47; omega)
 refine dN (.keep .nil) hle2 ?_
 refine dT 5 rfl rfl rfl (by kernel_rfl) (fun _ _ _ h => h) (y_bd S72 rfl rfl) (.keep .nil) hle2 ?_
 refine dE 6 (by kernel_rfl) rfl ?_
 refine bs' L35 rfl rfl rfl rfl (fun b_1 => ?_)
 refine dN (.skip (.keep .nil)) hle2 ?_
 refine dE 7 (by kernel_rfl) rfl ?_
 refine ap (k := 1) (news := gcf ((⟨a9, c9⟩ : GC), (k, x))) Tryz.underlying35 I72 rfl rfl hr (fun _ => (.tail (.tail .head))) (src_says Tryz.underlying35 rfl (fun _ => Says.own .head) (gcf_one _)) (by omega) (by unfold maxLen; omega) rfl (fun a12 c12 N12 r12 z12 => ?_)
 refine dN (.skip (.keep .nil)) hle2 ?_
 refine dT 8 rfl rfl rfl (by kernel_rfl) (fun _ _ _ h => h) (y_fa0 F37_4 rfl) (.skip (.keep .nil)) hle2 ?_
 refine dE 9 (by kernel_rfl) rfl ?_
 refine st Tryz.sizeOf35 rfl rfl rfl rfl (.tail .head) ?_
 refine dNk (by kernel_rfl) ?_
 refine dD (by kernel_rfl) ?_
 refine drN .head ?_
 exact fun _ _ hA hw => rn rfl hle2 ⟨_, _, _, ⟨a9, c9⟩, rfl, r12, ⟨hbq, h0, h1⟩⟩ hA hw
theorem tc_344 {H : Fz} {L : Own} {tb : Nat} {c0 c1 c2 c3 : Value} {a va : Option Addr} {m cap vc : Nat} {xs : List Value} {k : Int} {x : List UInt8} {N : Chunk} (hr : Row 72 2 a m cap xs N) (hm : m ≤ 1000000000000) (hx : BytesAt H va vc x) (hxl : x.length ≤ 1000000000000) (h0 : 0 ≤ k) (h1 : k < 4294967296) :
  Fn Tryz.prog 344 [.int .u32 k, .slice va x.length vc, .pointer (some ⟨tb, 0, none⟩)] H ([(tb, .cells [c0, c1, c2, c3, .slice a m cap].toArray 37 (0, 0))] :: N :: L) (fun _ H' L' => ∃ a' cap' N' g, L' = [(tb, .cells [c0, c1, c2, c3, .slice a' (m + 1) cap'].toArray 37 (0, 0))] :: N' :: L ∧ Row 72 2 a' (m + 1) cap' (xs ++ gcf (g, (k, x))) N' ∧ TagAt H' g (k, x)) := by
 refine Fn.mk Tryz.call344 Tryz.func344 rfl Tryz.ntmps344 rfl ?_
 refine rgD 9 (.keep .nil) mixed ?_
 refine dT 0 rfl rfl rfl (by kernel_rfl) (fun _ _ _ h => h) (y_fa0 F37_4 rfl) (.keep .nil) (Fz.le.refl _) ?_
 refine dT 1 rfl rfl rfl (by kernel_rfl) (fun _ _ _ h => h) (y_ld (Says.own .head) Tryz.isAgg35 rfl (Nat.zero_add _).symm rfl) (.keep .nil) (Fz.le.refl _) ?_
 refine dT 2 rfl rfl rfl (by kernel_rfl) (fun _ _ _ h => h) (y_mv rfl) (.keep .nil) (Fz.le.refl _) ?_
 refine dT 3 rfl rfl rfl (by kernel_rfl) (fun _ _ _ h => h) (y_mv rfl) (.keep .nil) (Fz.le.refl _) ?_
 refine dE 4 (by kernel_rfl) rfl ?_
 have hbd9 : x.length ≤ 1000000000000 := hxl
 refine apn (news := bytesOf x) Tryz.underlying22 I5 rfl rfl (src_bytes Tryz.underlying22 hx rfl) (by omega) (by unfold maxLen; omega) rfl (fun a9 c9 N9 r9 => ?_)
 refine frL r9 .head (fun H2 hle2 hz => ?_)
 have hbq := BytesAt.row hz r9 (by unfold B47; omega)
 refine dN (.keep .nil) hle2 ?_
 refine dT 5 rfl rfl rfl (by kernel_rfl) (fun _ _ _ h => h) (y_bd S72 rfl rfl) (.keep .nil) hle2 ?_
 refine dE 6 (by kernel_rfl) rfl ?_
 refine bs' L35 rfl rfl rfl rfl (fun b_1 => ?_)
 refine dN (.skip (.keep .nil)) hle2 ?_
 refine dE 7 (by kernel_rfl) rfl ?_
 refine ap (k := 1) (news := gcf ((⟨a9, c9⟩ : GC), (k, x))) Tryz.underlying35 I72 rfl rfl hr (fun _ => (.tail (.tail .head))) (src_says Tryz.underlying35 rfl (fun _ => Says.own .head) (gcf_one _)) (by omega) (by unfold maxLen; omega) rfl (fun a12 c12 N12 r12 z12 => ?_)
 refine dN (.skip (.keep .nil)) hle2 ?_
 refine dT 8 rfl rfl rfl (by kernel_rfl) (fun _ _ _ h => h) (y_fa0 F37_4 rfl) (.skip (.keep .nil)) hle2 ?_
 refine dE 9 (by kernel_rfl) rfl ?_
 refine st Tryz.sizeOf35 rfl rfl rfl rfl (.tail .head) ?_
 refine dNk (by kernel_rfl) ?_
 refine dD (by kernel_rfl) ?_
 refine drN .head ?_
 exact fun _ _ hA hw => rn rfl hle2 ⟨_, _, _, ⟨a9, c9⟩, rfl, r12, ⟨hbq, h0, h1⟩⟩ hA hw
theorem tc_345 {H : Fz} {L : Own} {tb : Nat} {c0 c1 c2 c3 : Value} {a va : Option Addr} {m cap vc : Nat} {xs : List Value} {k : Int} {x : List UInt8} {N : Chunk} (hr : Row 72 2 a m cap xs N) (hm : m ≤ 1000000000000) (hx : BytesAt H va vc x) (hxl : x.length ≤ 1000000000000) (h0 : 0 ≤ k) (h1 : k < 4294967296) :
  Fn Tryz.prog 345 [.int .u32 k, .slice va x.length vc, .pointer (some ⟨tb, 0, none⟩)] H ([(tb, .cells [c0, c1, c2, c3, .slice a m cap].toArray 37 (0, 0))] :: N :: L) (fun _ H' L' => ∃ a' cap' N' g, L' = [(tb, .cells [c0, c1, c2, c3, .slice a' (m + 1) cap'].toArray 37 (0, 0))] :: N' :: L ∧ Row 72 2 a' (m + 1) cap' (xs ++ gcf (g, (k, x))) N' ∧ TagAt H' g (k, x)) := by
 refine Fn.mk Tryz.call345 Tryz.func345 rfl Tryz.ntmps345 rfl ?_
 refine rgD 9 (.keep .nil) mixed ?_
 refine dT 0 rfl rfl rfl (by kernel_rfl) (fun _ _ _ h => h) (y_fa0 F37_4 rfl) (.keep .nil) (Fz.le.refl _) ?_
 refine dT 1 rfl rfl rfl (by kernel_rfl) (fun _ _ _ h => h) (y_ld (Says.own .head) Tryz.isAgg35 rfl (Nat.zero_add _).symm rfl) (.keep .nil) (Fz.le.refl _) ?_
 refine dT 2 rfl rfl rfl (by kernel_rfl) (fun _ _ _ h => h) (y_mv rfl) (.keep .nil) (Fz.le.refl _) ?_
 refine dT 3 rfl rfl rfl (by kernel_rfl) (fun _ _ _ h => h) (y_mv rfl) (.keep .nil) (Fz.le.refl _) ?_
 refine dE 4 (by kernel_rfl) rfl ?_
 have hbd9 : x.length ≤ 1000000000000 := hxl
 refine apn (news := bytesOf x) Tryz.underlying22 I5 rfl rfl (src_bytes Tryz.underlying22 hx rfl) (by omega) (by unfold maxLen; omega) rfl (fun a9 c9 N9 r9 => ?_)
 refine frL r9 .head (fun H2 hle2 hz => ?_)
 have hbq := BytesAt.row hz r9 (by unfold B47; omega)
 refine dN (.keep .nil) hle2 ?_
 refine dT 5 rfl rfl rfl (by kernel_rfl) (fun _ _ _ h => h) (y_bd S72 rfl rfl) (.keep .nil) hle2 ?_
 refine dE 6 (by kernel_rfl) rfl ?_
 refine bs' L35 rfl rfl rfl rfl (fun b_1 => ?_)
 refine dN (.skip (.keep .nil)) hle2 ?_
 refine dE 7 (by kernel_rfl) rfl ?_
 refine ap (k := 1) (news := gcf ((⟨a9, c9⟩ : GC), (k, x))) Tryz.underlying35 I72 rfl rfl hr (fun _ => (.tail (.tail .head))) (src_says Tryz.underlying35 rfl (fun _ => Says.own .head) (gcf_one _)) (by omega) (by unfold maxLen; omega) rfl (fun a12 c12 N12 r12 z12 => ?_)
 refine dN (.skip (.keep .nil)) hle2 ?_
 refine dT 8 rfl rfl rfl (by kernel_rfl) (fun _ _ _ h => h) (y_fa0 F37_4 rfl) (.skip (.keep .nil)) hle2 ?_
 refine dE 9 (by kernel_rfl) rfl ?_
 refine st Tryz.sizeOf35 rfl rfl rfl rfl (.tail .head) ?_
 refine dNk (by kernel_rfl) ?_
 refine dD (by kernel_rfl) ?_
 refine drN .head ?_
 exact fun _ _ hA hw => rn rfl hle2 ⟨_, _, _, ⟨a9, c9⟩, rfl, r12, ⟨hbq, h0, h1⟩⟩ hA hw
theorem tc_351 {H : Fz} {L : Own} {tb : Nat} {c0 c1 c2 c3 : Value} {a va : Option Addr} {m cap vc : Nat} {xs : List Value} {k : Int} {x : List UInt8} {N : Chunk} (hr : Row 72 2 a m cap xs N) (hm : m ≤ 1000000000000) (hx : BytesAt H va vc x) (hxl : x.length ≤ 1000000000000) (h0 : 0 ≤ k) (h1 : k < 4294967296) :
  Fn Tryz.prog 351 [.int .u32 k, .slice va x.length vc, .pointer (some ⟨tb, 0, none⟩)] H ([(tb, .cells [c0, c1, c2, c3, .slice a m cap].toArray 37 (0, 0))] :: N :: L) (fun _ H' L' => ∃ a' cap' N' g, L' = [(tb, .cells [c0, c1, c2, c3, .slice a' (m + 1) cap'].toArray 37 (0, 0))] :: N' :: L ∧ Row 72 2 a' (m + 1) cap' (xs ++ gcf (g, (k, x))) N' ∧ TagAt H' g (k, x)) := by
 refine Fn.mk Tryz.call351 Tryz.func351 rfl Tryz.ntmps351 rfl ?_
 refine rgD 9 (.keep .nil) mixed ?_
 refine dT 0 rfl rfl rfl (by kernel_rfl) (fun _ _ _ h => h) (y_fa0 F37_4 rfl) (.keep .nil) (Fz.le.refl _) ?_
 refine dT 1 rfl rfl rfl (by kernel_rfl) (fun _ _ _ h => h) (y_ld (Says.own .head) Tryz.isAgg35 rfl (Nat.zero_add _).symm rfl) (.keep .nil) (Fz.le.refl _) ?_
 refine dT 2 rfl rfl rfl (by kernel_rfl) (fun _ _ _ h => h) (y_mv rfl) (.keep .nil) (Fz.le.refl _) ?_
 refine dT 3 rfl rfl rfl (by kernel_rfl) (fun _ _ _ h => h) (y_mv rfl) (.keep .nil) (Fz.le.refl _) ?_
 refine dE 4 (by kernel_rfl) rfl ?_
 have hbd9 : x.length ≤ 1000000000000 := hxl
 refine apn (news := bytesOf x) Tryz.underlying22 I5 rfl rfl (src_bytes Tryz.underlying22 hx rfl) (by omega) (by unfold maxLen; omega) rfl (fun a9 c9 N9 r9 => ?_)
 refine frL r9 .head (fun H2 hle2 hz => ?_)
 have hbq := BytesAt.row hz r9 (by unfold B47; omega)
 refine dN (.keep .nil) hle2 ?_
 refine dT 5 rfl rfl rfl (by kernel_rfl) (fun _ _ _ h => h) (y_bd S72 rfl rfl) (.keep .nil) hle2 ?_
 refine dE 6 (by kernel_rfl) rfl ?_
 refine bs' L35 rfl rfl rfl rfl (fun b_1 => ?_)
 refine dN (.skip (.keep .nil)) hle2 ?_
 refine dE 7 (by kernel_rfl) rfl ?_
 refine ap (k := 1) (news := gcf ((⟨a9, c9⟩ : GC), (k, x))) Tryz.underlying35 I72 rfl rfl hr (fun _ => (.tail (.tail .head))) (src_says Tryz.underlying35 rfl (fun _ => Says.own .head) (gcf_one _)) (by omega) (by unfold maxLen; omega) rfl (fun a12 c12 N12 r12 z12 => ?_)
 refine dN (.skip (.keep .nil)) hle2 ?_
 refine dT 8 rfl rfl rfl (by kernel_rfl) (fun _ _ _ h => h) (y_fa0 F37_4 rfl) (.skip (.keep .nil)) hle2 ?_
 refine dE 9 (by kernel_rfl) rfl ?_
 refine st Tryz.sizeOf35 rfl rfl rfl rfl (.tail .head) ?_
 refine dNk (by kernel_rfl) ?_
 refine dD (by kernel_rfl) ?_
 refine drN .head ?_
 exact fun _ _ hA hw => rn rfl hle2 ⟨_, _, _, ⟨a9, c9⟩, rfl, r12, ⟨hbq, h0, h1⟩⟩ hA hw
end Go.Sx

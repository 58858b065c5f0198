import Derived.Test.YtdnbgafbhifhoaaDoorSxTab
import Derived.Test.YtdnbgafbhifhoaaDoorRK2
import Derived.Test.YtdnbgafbhifhoaaDoorLibI
import Derived.KernelRfl
set_option linter.unusedVariables false
set_option linter.unusedSimpArgs false
set_option maxRecDepth 100000
set_option maxHeartbeats 20000000
namespace Go.Sx
open Go.Proofs
theorem k_boolTree {H : Fz} {L : Own} {p : Bool} :
    Fn Tryd.prog 159 [.bool p] H L (fun v H' L' => H = H' ∧ L = L' ∧ v = .agg (TC.none.cells (.mk (if p then 1 else 0) [] false [] [])).toArray) := by
  refine Fn.mk Tryd.call159 Tryd.func159 rfl Tryd.ntmps159 rfl ?_
  refine sr ?_
  refine al Tryd.zeroValue26 rfl rfl (fun b_1 => ?_)
  refine nl ?_
  refine sq ?_
  refine sr ?_
  refine mv rfl rfl ?_
  refine nl ?_
  refine cb rfl (fun h3 => ?_) (fun h3 => ?_)
  · skip
    refine sr ?_
    refine bd' S26 rfl rfl rfl ?_
    refine sa Tryd.sizeOf26 rfl rfl rfl rfl rfl .head ?_
    refine nl ?_
    exact rC rfl Tryd.isAgg26 Tryd.sizeOf26 rfl .head rfl (Fz.le.refl _) (fun _ _ h => h) ⟨rfl, rfl, by rw [h3]; rfl⟩
  · skip
    refine skt ?_
    refine sr ?_
    refine bd' S26 rfl rfl rfl ?_
    refine sa Tryd.sizeOf26 rfl rfl rfl rfl rfl .head ?_
    refine nl ?_
    exact rC rfl Tryd.isAgg26 Tryd.sizeOf26 rfl .head rfl (Fz.le.refl _) (fun _ _ h => h) ⟨rfl, rfl, by rw [h3]; rfl⟩
theorem k_textTree {H : Fz} {L : Own} {p : Option Addr} {T : Tr} (hT : TextAt H T p) (hf : Fits T) :
    Fn Tryd.prog 141 [.pointer p] H L (fun v H' L' => L = L' ∧ ∃ c : TC, v = .agg (c.cells (.mk 0 (sT T) T.nul [] [])).toArray ∧ TreeAt H' c (.mk 0 (sT T) T.nul [] [])) := by
  refine Fn.mk Tryd.call141 Tryd.func141 rfl Tryd.ntmps141 rfl ?_
  refine sr ?_
  refine al Tryd.zeroValue26 rfl rfl (fun b_1 => ?_)
  refine nl ?_
  refine sq ?_
  refine sr ?_
  refine mv rfl rfl ?_
  refine epn Tryd.underlying104 rfl rfl ?_
  refine nl ?_
  refine cb rfl (fun h4 => ?_) (fun h4 => ?_)
  · skip
    have hnu : T.nul = true := hT.nul.symm.trans h4
    have hs : sT T = [] := by unfold sT; rw [hnu]; rfl
    refine sr ?_
    refine bd' S26 rfl rfl rfl ?_
    refine sa Tryd.sizeOf26 rfl rfl rfl rfl rfl .head ?_
    refine nl ?_
    exact rC rfl Tryd.isAgg26 Tryd.sizeOf26 rfl .head rfl (Fz.le.refl _) (fun _ _ h => h) ⟨rfl, TC.none, by rw [hs, hnu]; rfl, by rw [hs]; exact .of (.nil _) (.nil _) (.nil _)⟩
  · skip
    have hnu : T.nul = false := hT.nul.symm.trans h4
    have hs : sT T = T.s := sT_nn hnu
    obtain ⟨ad, rfl⟩ : ∃ ad, p = some ad := by
      cases p with
      | none => cases h4
      | some ad => exact ⟨ad, rfl⟩
    obtain ⟨b, rfl, hb⟩ := hT.val _ rfl
    refine skt ?_
    refine sr ?_
    refine mv rfl rfl ?_
    refine nc rfl rfl ?_
    refine ld (j := 0) (Says.fz hb) Tryd.isAgg9 rfl rfl rfl rfl ?_
    refine csb Tryd.underlying9 Tryd.underlying22 Tryd.underlying5 rfl (by have := hf.s; unfold B47; omega) rfl (fun Hb9 b9 cp9 le_2 hb9 => ?_)
    refine bd' S26 rfl rfl rfl ?_
    refine sa Tryd.sizeOf26 rfl rfl rfl rfl rfl .head ?_
    refine nl ?_
    exact rC rfl Tryd.isAgg26 Tryd.sizeOf26 rfl .head rfl le_2 (fun _ _ h => h) ⟨rfl, ⟨some ⟨b9, 0, none⟩, cp9, none, 0, none, 0⟩, by rw [hs, hnu]; rfl, by rw [hs]; exact .of hb9 (.nil _) (.nil _)⟩
theorem k_octetsTree {H : Fz} {L : Own} {a : Option Addr} {c : Nat} {T : Tr} (hT : OctAt H T a c) (hf : Fits T) :
    Fn Tryd.prog 133 [.slice a (sT T).length c] H L (fun v H' L' => L = L' ∧ ∃ c : TC, v = .agg (c.cells (.mk 0 (sT T) T.nul [] [])).toArray ∧ TreeAt H' c (.mk 0 (sT T) T.nul [] [])) := by
  refine Fn.mk Tryd.call133 Tryd.func133 rfl Tryd.ntmps133 rfl ?_
  refine sr ?_
  refine al Tryd.zeroValue26 rfl rfl (fun b_1 => ?_)
  refine nl ?_
  refine sr ?_
  refine mv rfl rfl ?_
  have hbd4 : (sT T).length ≤ 1000000000000 := (by have := hf.sTl; exact this)
  refine apn (news := bytesOf (sT T)) Tryd.underlying22 I5 rfl rfl (src_bytes Tryd.underlying22 hT.val rfl) (by omega) (by unfold maxLen; omega) rfl (fun a4 c4 N4 r4 => ?_)
  refine mv rfl rfl ?_
  refine esn Tryd.underlying22 rfl rfl ?_
  refine bd' S26 rfl rfl rfl ?_
  refine sa Tryd.sizeOf26 rfl rfl rfl rfl rfl (.tail .head) ?_
  refine nl ?_
  refine frW r4 .head (fun H2 hle2 hz => ?_)
  have hbq := BytesAt.row hz r4 (by have := hf.sTl; unfold B47; omega)
  exact rC rfl Tryd.isAgg26 Tryd.sizeOf26 rfl .head rfl hle2 (fun _ _ h => h) ⟨rfl, ⟨a4, c4, none, 0, none, 0⟩, by rw [← hT.nul]; rfl, .of hbq (.nil _) (.nil _)⟩
theorem k_sorted {H : Fz} {L : Own} {a : Option Addr} {c : Nat} {us : List (Int × List UInt8)} (hu : TagsAt H a c us) (hr : (us.map (·.1)).Pairwise (· ≤ ·)) :
    Fn Tryd.prog 126 [.slice a us.length c] H L (fun _ H' L' => H = H' ∧ L = L') := by
  have hul := hu.len
  refine Fn.mk Tryd.call126 Tryd.func126 rfl Tryd.ntmps126 rfl ?_
  refine sr ?_
  refine mv rfl rfl ?_
  refine ls Tryd.runUnderlying24 rfl rfl ?_
  refine mv rfl rfl ?_
  refine nl ?_
  refine fr (us.length) (fun k l' H' L' => [(0, .slice a us.length c), (5, .int .i64 (us.length : Int))] = l' ∧ L = L' ∧ H = H') [(0, .slice a us.length c), (5, .int .i64 (us.length : Int))] (fun k l' H' L' h => ?_) (by omega) rfl (.cons rfl (.cons rfl (.nil _))) ⟨rfl, rfl, rfl⟩ rfl rfl rfl rfl rfl (fun k l' H' L' hk le_1 hI => ?_) (fun l' H' L' le_2 hI => ?_)
  · obtain ⟨rfl, _⟩ := h; exact ⟨rfl, rfl, rfl, rfl⟩
  · skip
    obtain ⟨rfl, rfl, pk0⟩ := hI
    subst pk0
    refine sr ?_
    refine mv rfl rfl ?_
    refine asg rfl rfl ?_
    refine nl ?_
    refine sr ?_
    refine mv rfl rfl ?_
    refine asg rfl rfl ?_
    refine nl ?_
    refine bl (lp 0 (fun i l' H' L' => [(0, .slice a us.length c), (3, .int .i64 (k : Int)), (5, .int .i64 (us.length : Int)), (6, .int .i64 (k : Int))] = l' ∧ H = H' ∧ L = L') [(0, .slice a us.length c), (3, .int .i64 (k : Int)), (5, .int .i64 (us.length : Int)), (6, .int .i64 (k : Int))] (.cons rfl (.cons rfl (.cons rfl (.cons rfl (.nil _))))) ⟨rfl, rfl, rfl⟩ (fun i l' H' L' hi_ le_3 hI => ?_))
    obtain ⟨rfl, rfl, rfl⟩ := hI
    refine sq ?_
    refine sq ?_
    refine rgD 16 .nil mixed ?_
    refine dT 0 rfl rfl rfl (by kernel_rfl) (fun _ _ _ h => h) (y_mv rfl) .nil (Fz.le.refl _) ?_
    refine dT 1 rfl rfl rfl (by kernel_rfl) (fun _ _ _ h => h) (y_gt rfl rfl) .nil (Fz.le.refl _) ?_
    refine dT 2 rfl rfl rfl (by kernel_rfl) (fun _ _ _ h => h) (y_mv rfl) .nil (Fz.le.refl _) ?_
    refine splH (t := 12) rfl (fun h12 => ?_) (fun h12 => ?_)
    · skip
      refine dT 3 rfl rfl rfl (by kernel_rfl) (fun _ _ _ h => h) (y_gr rfl rfl (y_mv rfl)) .nil (Fz.le.refl _) ?_
      refine dT 4 rfl rfl rfl (by kernel_rfl) (fun _ _ _ h => h) (y_gr rfl rfl (y_mv rfl)) .nil (Fz.le.refl _) ?_
      obtain ⟨b_4, o_5, e_6, g_7⟩ := hu.at_ (ne_nil_of_lt hk)
      obtain ⟨c_8, q_9, q_10⟩ := g_7 k hk
      refine dT 5 rfl rfl rfl (by kernel_rfl) (fun _ _ _ h => h) (y_gr rfl rfl (y_ixk (j := k) Tryd.runUnderlying24 Tryd.sizeOf61 rfl e_6 rfl (by omega) hk)) .nil (Fz.le.refl _) ?_
      refine dT 6 rfl rfl rfl (by kernel_rfl) (fun _ _ _ h => h) (y_gr rfl rfl (y_fa F61_0 rfl)) .nil (Fz.le.refl _) ?_
      refine dT 7 rfl rfl rfl (by kernel_rfl) (fun _ _ _ h => h) (y_gr rfl rfl (y_ld (j := 0) (Says.fz q_9) Tryd.isAgg58 rfl (Nat.add_zero _).symm rfl)) .nil (Fz.le.refl _) ?_
      refine dT 8 rfl rfl rfl (by kernel_rfl) (fun _ _ _ h => h) (y_gr rfl rfl (y_mv rfl)) .nil (Fz.le.refl _) ?_
      refine dT 9 rfl rfl rfl (by kernel_rfl) (fun _ _ _ h => h) (y_gr rfl rfl (y_mv rfl)) .nil (Fz.le.refl _) ?_
      have hk1 : k - 1 < us.length := by omega
      refine dT 10 rfl rfl rfl (by kernel_rfl) (fun _ _ _ h => h) (y_gr rfl rfl (y_sb rfl rfl (w64 (by omega) (by omega)))) .nil (Fz.le.refl _) ?_
      obtain ⟨b_11, o_12, e_13, g_14⟩ := hu.at_ (ne_nil_of_lt hk)
      obtain ⟨c_15, q_16, q_17⟩ := g_14 (k - 1) hk1
      refine dT 11 rfl rfl rfl (by kernel_rfl) (fun _ _ _ h => h) (y_gr rfl rfl (y_ixk (j := (k - 1)) Tryd.runUnderlying24 Tryd.sizeOf61 rfl e_13 rfl (by omega) hk1)) .nil (Fz.le.refl _) ?_
      refine dT 12 rfl rfl rfl (by kernel_rfl) (fun _ _ _ h => h) (y_gr rfl rfl (y_fa F61_0 rfl)) .nil (Fz.le.refl _) ?_
      refine dT 13 rfl rfl rfl (by kernel_rfl) (fun _ _ _ h => h) (y_gr rfl rfl (y_ld (j := 0) (Says.fz q_16) Tryd.isAgg58 rfl (Nat.add_zero _).symm rfl)) .nil (Fz.le.refl _) ?_
      refine dT 14 rfl rfl rfl (by kernel_rfl) (fun _ _ _ h => h) (y_gr rfl rfl (y_lt rfl rfl)) .nil (Fz.le.refl _) ?_
      refine dT 15 rfl rfl rfl (by kernel_rfl) (fun _ _ _ h => h) (y_pk rfl rfl rfl) .nil (Fz.le.refl _) ?_
      refine dD (by kernel_rfl) ?_
      refine Nt ?_
      refine cF (by show some (Value.bool (decide _)) = some (.bool false); rw [decide_eq_false (by have := rise_get hr (show k - 1 < k by omega) hk; omega)]) ?_
      refine exX ?_
      refine XT ?_
      refine XT ?_
      refine Xb ?_
      refine Nb ?_
      refine fun a_ w_ hA hw => ⟨_, _, _, hA.sub ?_, le_1, hw, _, rfl, rfl, rfl, rfl⟩
      exact (.cons rfl (.cons rfl (.cons rfl (.nil _))))
    · skip
      refine dT 3 rfl rfl rfl (by kernel_rfl) (fun _ _ _ h => h) (y_gs rfl rfl rfl) .nil (Fz.le.refl _) ?_
      refine dT 4 rfl rfl rfl (by kernel_rfl) (fun _ _ _ h => h) (y_gs rfl rfl rfl) .nil (Fz.le.refl _) ?_
      refine dT 5 rfl rfl rfl (by kernel_rfl) (fun _ _ _ h => h) (y_gs rfl rfl rfl) .nil (Fz.le.refl _) ?_
      refine dT 6 rfl rfl rfl (by kernel_rfl) (fun _ _ _ h => h) (y_gs rfl rfl rfl) .nil (Fz.le.refl _) ?_
      refine dT 7 rfl rfl rfl (by kernel_rfl) (fun _ _ _ h => h) (y_gs rfl rfl rfl) .nil (Fz.le.refl _) ?_
      refine dT 8 rfl rfl rfl (by kernel_rfl) (fun _ _ _ h => h) (y_gs rfl rfl rfl) .nil (Fz.le.refl _) ?_
      refine dT 9 rfl rfl rfl (by kernel_rfl) (fun _ _ _ h => h) (y_gs rfl rfl rfl) .nil (Fz.le.refl _) ?_
      refine dT 10 rfl rfl rfl (by kernel_rfl) (fun _ _ _ h => h) (y_gs rfl rfl rfl) .nil (Fz.le.refl _) ?_
      refine dT 11 rfl rfl rfl (by kernel_rfl) (fun _ _ _ h => h) (y_gs rfl rfl rfl) .nil (Fz.le.refl _) ?_
      refine dT 12 rfl rfl rfl (by kernel_rfl) (fun _ _ _ h => h) (y_gs rfl rfl rfl) .nil (Fz.le.refl _) ?_
      refine dT 13 rfl rfl rfl (by kernel_rfl) (fun _ _ _ h => h) (y_gs rfl rfl rfl) .nil (Fz.le.refl _) ?_
      refine dT 14 rfl rfl rfl (by kernel_rfl) (fun _ _ _ h => h) (y_gs rfl rfl rfl) .nil (Fz.le.refl _) ?_
      refine dT 15 rfl rfl rfl (by kernel_rfl) (fun _ _ _ h => h) (y_pk rfl rfl rfl) .nil (Fz.le.refl _) ?_
      refine dD (by kernel_rfl) ?_
      refine Nt ?_
      refine cF (by rfl) ?_
      refine exX ?_
      refine XT ?_
      refine XT ?_
      refine Xb ?_
      refine Nb ?_
      refine fun a_ w_ hA hw => ⟨_, _, _, hA.sub ?_, le_1, hw, _, rfl, rfl, rfl, rfl⟩
      exact (.cons rfl (.cons rfl (.cons rfl (.nil _))))
  · skip
    obtain ⟨rfl, rfl, pk0⟩ := hI
    refine toNn ?_
    subst pk0
    exact fun _ _ hA hw => rn rfl le_2 ⟨rfl, rfl⟩ hA hw
theorem tc_125 {H : Fz} {L : Own} {tb : Nat} {c0 c1 c2 c3 : Value} {a va : Option Addr} {m cap vc : Nat} {xs : List Value} {k : Int} {x : List UInt8} {N : Chunk} (hr : Row 61 2 a m cap xs N) (hm : m ≤ 1000000) (hx : BytesAt H va vc x) (hxl : x.length ≤ 1000000000000) (h0 : 0 ≤ k) (h1 : k < 4294967296) :
    Fn Tryd.prog 125 [.int .u32 k, .slice va x.length vc, .pointer (some ⟨tb, 0, none⟩)] H ([(tb, .cells [c0, c1, c2, c3, .slice a m cap].toArray 26 (0, 0))] :: N :: L) (fun _ H' L' => ∃ a' cap' N' g, L' = [(tb, .cells [c0, c1, c2, c3, .slice a' (m + 1) cap'].toArray 26 (0, 0))] :: N' :: L ∧ Row 61 2 a' (m + 1) cap' (xs ++ gcf (g, (k, x))) N' ∧ TagAt H' g (k, x)) := by
  refine Fn.mk Tryd.call125 Tryd.func125 rfl Tryd.ntmps125 rfl ?_
  refine rgD 9 (.keep .nil) mixed ?_
  refine dT 0 rfl rfl rfl (by kernel_rfl) (fun _ _ _ h => h) (y_fa0 F26_4 rfl) (.keep .nil) (Fz.le.refl _) ?_
  refine dT 1 rfl rfl rfl (by kernel_rfl) (fun _ _ _ h => h) (y_ld (Says.own .head) Tryd.isAgg24 rfl (Nat.zero_add _).symm rfl) (.keep .nil) (Fz.le.refl _) ?_
  refine dT 2 rfl rfl rfl (by kernel_rfl) (fun _ _ _ h => h) (y_mv rfl) (.keep .nil) (Fz.le.refl _) ?_
  refine dT 3 rfl rfl rfl (by kernel_rfl) (fun _ _ _ h => h) (y_mv rfl) (.keep .nil) (Fz.le.refl _) ?_
  refine dE 4 (by kernel_rfl) rfl ?_
  have hbd9 : x.length ≤ 1000000000000 := hxl
  refine apn (news := bytesOf x) Tryd.underlying22 I5 rfl rfl (src_bytes Tryd.underlying22 hx rfl) (by omega) (by unfold maxLen; omega) rfl (fun a9 c9 N9 r9 => ?_)
  refine frL r9 .head (fun H2 hle2 hz => ?_)
  have hbq := BytesAt.row hz r9 (by unfold B47; omega)
  refine dN (.keep .nil) hle2 ?_
  refine dT 5 rfl rfl rfl (by kernel_rfl) (fun _ _ _ h => h) (y_bd S61 rfl rfl) (.keep .nil) hle2 ?_
  refine dE 6 (by kernel_rfl) rfl ?_
  refine bs' L24 rfl rfl rfl rfl (fun b_1 => ?_)
  refine dN (.skip (.keep .nil)) hle2 ?_
  refine dE 7 (by kernel_rfl) rfl ?_
  refine ap (k := 1) (news := gcf ((⟨a9, c9⟩ : GC), (k, x))) Tryd.underlying24 I61 rfl rfl hr (fun _ => (.tail (.tail .head))) (src_says Tryd.underlying24 rfl (fun _ => Says.own .head) (gcf_one _)) (by omega) (by unfold maxLen; omega) rfl (fun a12 c12 N12 r12 z12 => ?_)
  refine dN (.skip (.keep .nil)) hle2 ?_
  refine dT 8 rfl rfl rfl (by kernel_rfl) (fun _ _ _ h => h) (y_fa0 F26_4 rfl) (.skip (.keep .nil)) hle2 ?_
  refine dE 9 (by kernel_rfl) rfl ?_
  refine st Tryd.sizeOf24 rfl rfl rfl rfl (.tail .head) ?_
  refine dNk (by kernel_rfl) ?_
  refine dD (by kernel_rfl) ?_
  refine drN .head ?_
  exact fun _ _ hA hw => rn rfl hle2 ⟨_, _, _, ⟨a9, c9⟩, rfl, r12, ⟨hbq, h0, h1⟩⟩ hA hw
theorem tc_130 {H : Fz} {L : Own} {tb : Nat} {c0 c1 c2 c3 : Value} {a va : Option Addr} {m cap vc : Nat} {xs : List Value} {k : Int} {x : List UInt8} {N : Chunk} (hr : Row 61 2 a m cap xs N) (hm : m ≤ 1000000) (hx : BytesAt H va vc x) (hxl : x.length ≤ 1000000000000) (h0 : 0 ≤ k) (h1 : k < 4294967296) :
    Fn Tryd.prog 130 [.int .u32 k, .slice va x.length vc, .pointer (some ⟨tb, 0, none⟩)] H ([(tb, .cells [c0, c1, c2, c3, .slice a m cap].toArray 26 (0, 0))] :: N :: L) (fun _ H' L' => ∃ a' cap' N' g, L' = [(tb, .cells [c0, c1, c2, c3, .slice a' (m + 1) cap'].toArray 26 (0, 0))] :: N' :: L ∧ Row 61 2 a' (m + 1) cap' (xs ++ gcf (g, (k, x))) N' ∧ TagAt H' g (k, x)) := by
  refine Fn.mk Tryd.call130 Tryd.func130 rfl Tryd.ntmps130 rfl ?_
  refine rgD 9 (.keep .nil) mixed ?_
  refine dT 0 rfl rfl rfl (by kernel_rfl) (fun _ _ _ h => h) (y_fa0 F26_4 rfl) (.keep .nil) (Fz.le.refl _) ?_
  refine dT 1 rfl rfl rfl (by kernel_rfl) (fun _ _ _ h => h) (y_ld (Says.own .head) Tryd.isAgg24 rfl (Nat.zero_add _).symm rfl) (.keep .nil) (Fz.le.refl _) ?_
  refine dT 2 rfl rfl rfl (by kernel_rfl) (fun _ _ _ h => h) (y_mv rfl) (.keep .nil) (Fz.le.refl _) ?_
  refine dT 3 rfl rfl rfl (by kernel_rfl) (fun _ _ _ h => h) (y_mv rfl) (.keep .nil) (Fz.le.refl _) ?_
  refine dE 4 (by kernel_rfl) rfl ?_
  have hbd9 : x.length ≤ 1000000000000 := hxl
  refine apn (news := bytesOf x) Tryd.underlying22 I5 rfl rfl (src_bytes Tryd.underlying22 hx rfl) (by omega) (by unfold maxLen; omega) rfl (fun a9 c9 N9 r9 => ?_)
  refine frL r9 .head (fun H2 hle2 hz => ?_)
  have hbq := BytesAt.row hz r9 (by unfold B47; omega)
  refine dN (.keep .nil) hle2 ?_
  refine dT 5 rfl rfl rfl (by kernel_rfl) (fun _ _ _ h => h) (y_bd S61 rfl rfl) (.keep .nil) hle2 ?_
  refine dE 6 (by kernel_rfl) rfl ?_
  refine bs' L24 rfl rfl rfl rfl (fun b_1 => ?_)
  refine dN (.skip (.keep .nil)) hle2 ?_
  refine dE 7 (by kernel_rfl) rfl ?_
  refine ap (k := 1) (news := gcf ((⟨a9, c9⟩ : GC), (k, x))) Tryd.underlying24 I61 rfl rfl hr (fun _ => (.tail (.tail .head))) (src_says Tryd.underlying24 rfl (fun _ => Says.own .head) (gcf_one _)) (by omega) (by unfold maxLen; omega) rfl (fun a12 c12 N12 r12 z12 => ?_)
  refine dN (.skip (.keep .nil)) hle2 ?_
  refine dT 8 rfl rfl rfl (by kernel_rfl) (fun _ _ _ h => h) (y_fa0 F26_4 rfl) (.skip (.keep .nil)) hle2 ?_
  refine dE 9 (by kernel_rfl) rfl ?_
  refine st Tryd.sizeOf24 rfl rfl rfl rfl (.tail .head) ?_
  refine dNk (by kernel_rfl) ?_
  refine dD (by kernel_rfl) ?_
  refine drN .head ?_
  exact fun _ _ hA hw => rn rfl hle2 ⟨_, _, _, ⟨a9, c9⟩, rfl, r12, ⟨hbq, h0, h1⟩⟩ hA hw
theorem tc_134 {H : Fz} {L : Own} {tb : Nat} {c0 c1 c2 c3 : Value} {a va : Option Addr} {m cap vc : Nat} {xs : List Value} {k : Int} {x : List UInt8} {N : Chunk} (hr : Row 61 2 a m cap xs N) (hm : m ≤ 1000000) (hx : BytesAt H va vc x) (hxl : x.length ≤ 1000000000000) (h0 : 0 ≤ k) (h1 : k < 4294967296) :
    Fn Tryd.prog 134 [.int .u32 k, .slice va x.length vc, .pointer (some ⟨tb, 0, none⟩)] H ([(tb, .cells [c0, c1, c2, c3, .slice a m cap].toArray 26 (0, 0))] :: N :: L) (fun _ H' L' => ∃ a' cap' N' g, L' = [(tb, .cells [c0, c1, c2, c3, .slice a' (m + 1) cap'].toArray 26 (0, 0))] :: N' :: L ∧ Row 61 2 a' (m + 1) cap' (xs ++ gcf (g, (k, x))) N' ∧ TagAt H' g (k, x)) := by
  refine Fn.mk Tryd.call134 Tryd.func134 rfl Tryd.ntmps134 rfl ?_
  refine rgD 9 (.keep .nil) mixed ?_
  refine dT 0 rfl rfl rfl (by kernel_rfl) (fun _ _ _ h => h) (y_fa0 F26_4 rfl) (.keep .nil) (Fz.le.refl _) ?_
  refine dT 1 rfl rfl rfl (by kernel_rfl) (fun _ _ _ h => h) (y_ld (Says.own .head) Tryd.isAgg24 rfl (Nat.zero_add _).symm rfl) (.keep .nil) (Fz.le.refl _) ?_
  refine dT 2 rfl rfl rfl (by kernel_rfl) (fun _ _ _ h => h) (y_mv rfl) (.keep .nil) (Fz.le.refl _) ?_
  refine dT 3 rfl rfl rfl (by kernel_rfl) (fun _ _ _ h => h) (y_mv rfl) (.keep .nil) (Fz.le.refl _) ?_
  refine dE 4 (by kernel_rfl) rfl ?_
  have hbd9 : x.length ≤ 1000000000000 := hxl
  refine apn (news := bytesOf x) Tryd.underlying22 I5 rfl rfl (src_bytes Tryd.underlying22 hx rfl) (by omega) (by unfold maxLen; omega) rfl (fun a9 c9 N9 r9 => ?_)
  refine frL r9 .head (fun H2 hle2 hz => ?_)
  have hbq := BytesAt.row hz r9 (by unfold B47; omega)
  refine dN (.keep .nil) hle2 ?_
  refine dT 5 rfl rfl rfl (by kernel_rfl) (fun _ _ _ h => h) (y_bd S61 rfl rfl) (.keep .nil) hle2 ?_
  refine dE 6 (by kernel_rfl) rfl ?_
  refine bs' L24 rfl rfl rfl rfl (fun b_1 => ?_)
  refine dN (.skip (.keep .nil)) hle2 ?_
  refine dE 7 (by kernel_rfl) rfl ?_
  refine ap (k := 1) (news := gcf ((⟨a9, c9⟩ : GC), (k, x))) Tryd.underlying24 I61 rfl rfl hr (fun _ => (.tail (.tail .head))) (src_says Tryd.underlying24 rfl (fun _ => Says.own .head) (gcf_one _)) (by omega) (by unfold maxLen; omega) rfl (fun a12 c12 N12 r12 z12 => ?_)
  refine dN (.skip (.keep .nil)) hle2 ?_
  refine dT 8 rfl rfl rfl (by kernel_rfl) (fun _ _ _ h => h) (y_fa0 F26_4 rfl) (.skip (.keep .nil)) hle2 ?_
  refine dE 9 (by kernel_rfl) rfl ?_
  refine st Tryd.sizeOf24 rfl rfl rfl rfl (.tail .head) ?_
  refine dNk (by kernel_rfl) ?_
  refine dD (by kernel_rfl) ?_
  refine drN .head ?_
  exact fun _ _ hA hw => rn rfl hle2 ⟨_, _, _, ⟨a9, c9⟩, rfl, r12, ⟨hbq, h0, h1⟩⟩ hA hw
theorem tc_138 {H : Fz} {L : Own} {tb : Nat} {c0 c1 c2 c3 : Value} {a va : Option Addr} {m cap vc : Nat} {xs : List Value} {k : Int} {x : List UInt8} {N : Chunk} (hr : Row 61 2 a m cap xs N) (hm : m ≤ 1000000) (hx : BytesAt H va vc x) (hxl : x.length ≤ 1000000000000) (h0 : 0 ≤ k) (h1 : k < 4294967296) :
    Fn Tryd.prog 138 [.int .u32 k, .slice va x.length vc, .pointer (some ⟨tb, 0, none⟩)] H ([(tb, .cells [c0, c1, c2, c3, .slice a m cap].toArray 26 (0, 0))] :: N :: L) (fun _ H' L' => ∃ a' cap' N' g, L' = [(tb, .cells [c0, c1, c2, c3, .slice a' (m + 1) cap'].toArray 26 (0, 0))] :: N' :: L ∧ Row 61 2 a' (m + 1) cap' (xs ++ gcf (g, (k, x))) N' ∧ TagAt H' g (k, x)) := by
  refine Fn.mk Tryd.call138 Tryd.func138 rfl Tryd.ntmps138 rfl ?_
  refine rgD 9 (.keep .nil) mixed ?_
  refine dT 0 rfl rfl rfl (by kernel_rfl) (fun _ _ _ h => h) (y_fa0 F26_4 rfl) (.keep .nil) (Fz.le.refl _) ?_
  refine dT 1 rfl rfl rfl (by kernel_rfl) (fun _ _ _ h => h) (y_ld (Says.own .head) Tryd.isAgg24 rfl (Nat.zero_add _).symm rfl) (.keep .nil) (Fz.le.refl _) ?_
  refine dT 2 rfl rfl rfl (by kernel_rfl) (fun _ _ _ h => h) (y_mv rfl) (.keep .nil) (Fz.le.refl _) ?_
  refine dT 3 rfl rfl rfl (by kernel_rfl) (fun _ _ _ h => h) (y_mv rfl) (.keep .nil) (Fz.le.refl _) ?_
  refine dE 4 (by kernel_rfl) rfl ?_
  have hbd9 : x.length ≤ 1000000000000 := hxl
  refine apn (news := bytesOf x) Tryd.underlying22 I5 rfl rfl (src_bytes Tryd.underlying22 hx rfl) (by omega) (by unfold maxLen; omega) rfl (fun a9 c9 N9 r9 => ?_)
  refine frL r9 .head (fun H2 hle2 hz => ?_)
  have hbq := BytesAt.row hz r9 (by unfold B47; omega)
  refine dN (.keep .nil) hle2 ?_
  refine dT 5 rfl rfl rfl (by kernel_rfl) (fun _ _ _ h => h) (y_bd S61 rfl rfl) (.keep .nil) hle2 ?_
  refine dE 6 (by kernel_rfl) rfl ?_
  refine bs' L24 rfl rfl rfl rfl (fun b_1 => ?_)
  refine dN (.skip (.keep .nil)) hle2 ?_
  refine dE 7 (by kernel_rfl) rfl ?_
  refine ap (k := 1) (news := gcf ((⟨a9, c9⟩ : GC), (k, x))) Tryd.underlying24 I61 rfl rfl hr (fun _ => (.tail (.tail .head))) (src_says Tryd.underlying24 rfl (fun _ => Says.own .head) (gcf_one _)) (by omega) (by unfold maxLen; omega) rfl (fun a12 c12 N12 r12 z12 => ?_)
  refine dN (.skip (.keep .nil)) hle2 ?_
  refine dT 8 rfl rfl rfl (by kernel_rfl) (fun _ _ _ h => h) (y_fa0 F26_4 rfl) (.skip (.keep .nil)) hle2 ?_
  refine dE 9 (by kernel_rfl) rfl ?_
  refine st Tryd.sizeOf24 rfl rfl rfl rfl (.tail .head) ?_
  refine dNk (by kernel_rfl) ?_
  refine dD (by kernel_rfl) ?_
  refine drN .head ?_
  exact fun _ _ hA hw => rn rfl hle2 ⟨_, _, _, ⟨a9, c9⟩, rfl, r12, ⟨hbq, h0, h1⟩⟩ hA hw
theorem tc_142 {H : Fz} {L : Own} {tb : Nat} {c0 c1 c2 c3 : Value} {a va : Option Addr} {m cap vc : Nat} {xs : List Value} {k : Int} {x : List UInt8} {N : Chunk} (hr : Row 61 2 a m cap xs N) (hm : m ≤ 1000000) (hx : BytesAt H va vc x) (hxl : x.length ≤ 1000000000000) (h0 : 0 ≤ k) (h1 : k < 4294967296) :
    Fn Tryd.prog 142 [.int .u32 k, .slice va x.length vc, .pointer (some ⟨tb, 0, none⟩)] H ([(tb, .cells [c0, c1, c2, c3, .slice a m cap].toArray 26 (0, 0))] :: N :: L) (fun _ H' L' => ∃ a' cap' N' g, L' = [(tb, .cells [c0, c1, c2, c3, .slice a' (m + 1) cap'].toArray 26 (0, 0))] :: N' :: L ∧ Row 61 2 a' (m + 1) cap' (xs ++ gcf (g, (k, x))) N' ∧ TagAt H' g (k, x)) := by
  refine Fn.mk Tryd.call142 Tryd.func142 rfl Tryd.ntmps142 rfl ?_
  refine rgD 9 (.keep .nil) mixed ?_
  refine dT 0 rfl rfl rfl (by kernel_rfl) (fun _ _ _ h => h) (y_fa0 F26_4 rfl) (.keep .nil) (Fz.le.refl _) ?_
  refine dT 1 rfl rfl rfl (by kernel_rfl) (fun _ _ _ h => h) (y_ld (Says.own .head) Tryd.isAgg24 rfl (Nat.zero_add _).symm rfl) (.keep .nil) (Fz.le.refl _) ?_
  refine dT 2 rfl rfl rfl (by kernel_rfl) (fun _ _ _ h => h) (y_mv rfl) (.keep .nil) (Fz.le.refl _) ?_
  refine dT 3 rfl rfl rfl (by kernel_rfl) (fun _ _ _ h => h) (y_mv rfl) (.keep .nil) (Fz.le.refl _) ?_
  refine dE 4 (by kernel_rfl) rfl ?_
  have hbd9 : x.length ≤ 1000000000000 := hxl
  refine apn (news := bytesOf x) Tryd.underlying22 I5 rfl rfl (src_bytes Tryd.underlying22 hx rfl) (by omega) (by unfold maxLen; omega) rfl (fun a9 c9 N9 r9 => ?_)
  refine frL r9 .head (fun H2 hle2 hz => ?_)
  have hbq := BytesAt.row hz r9 (by unfold B47; omega)
  refine dN (.keep .nil) hle2 ?_
  refine dT 5 rfl rfl rfl (by kernel_rfl) (fun _ _ _ h => h) (y_bd S61 rfl rfl) (.keep .nil) hle2 ?_
  refine dE 6 (by kernel_rfl) rfl ?_
  refine bs' L24 rfl rfl rfl rfl (fun b_1 => ?_)
  refine dN (.skip (.keep .nil)) hle2 ?_
  refine dE 7 (by kernel_rfl) rfl ?_
  refine ap (k := 1) (news := gcf ((⟨a9, c9⟩ : GC), (k, x))) Tryd.underlying24 I61 rfl rfl hr (fun _ => (.tail (.tail .head))) (src_says Tryd.underlying24 rfl (fun _ => Says.own .head) (gcf_one _)) (by omega) (by unfold maxLen; omega) rfl (fun a12 c12 N12 r12 z12 => ?_)
  refine dN (.skip (.keep .nil)) hle2 ?_
  refine dT 8 rfl rfl rfl (by kernel_rfl) (fun _ _ _ h => h) (y_fa0 F26_4 rfl) (.skip (.keep .nil)) hle2 ?_
  refine dE 9 (by kernel_rfl) rfl ?_
  refine st Tryd.sizeOf24 rfl rfl rfl rfl (.tail .head) ?_
  refine dNk (by kernel_rfl) ?_
  refine dD (by kernel_rfl) ?_
  refine drN .head ?_
  exact fun _ _ hA hw => rn rfl hle2 ⟨_, _, _, ⟨a9, c9⟩, rfl, r12, ⟨hbq, h0, h1⟩⟩ hA hw
theorem tc_146 {H : Fz} {L : Own} {tb : Nat} {c0 c1 c2 c3 : Value} {a va : Option Addr} {m cap vc : Nat} {xs : List Value} {k : Int} {x : List UInt8} {N : Chunk} (hr : Row 61 2 a m cap xs N) (hm : m ≤ 1000000) (hx : BytesAt H va vc x) (hxl : x.length ≤ 1000000000000) (h0 : 0 ≤ k) (h1 : k < 4294967296) :
    Fn Tryd.prog 146 [.int .u32 k, .slice va x.length vc, .pointer (some ⟨tb, 0, none⟩)] H ([(tb, .cells [c0, c1, c2, c3, .slice a m cap].toArray 26 (0, 0))] :: N :: L) (fun _ H' L' => ∃ a' cap' N' g, L' = [(tb, .cells [c0, c1, c2, c3, .slice a' (m + 1) cap'].toArray 26 (0, 0))] :: N' :: L ∧ Row 61 2 a' (m + 1) cap' (xs ++ gcf (g, (k, x))) N' ∧ TagAt H' g (k, x)) := by
  refine Fn.mk Tryd.call146 Tryd.func146 rfl Tryd.ntmps146 rfl ?_
  refine rgD 9 (.keep .nil) mixed ?_
  refine dT 0 rfl rfl rfl (by kernel_rfl) (fun _ _ _ h => h) (y_fa0 F26_4 rfl) (.keep .nil) (Fz.le.refl _) ?_
  refine dT 1 rfl rfl rfl (by kernel_rfl) (fun _ _ _ h => h) (y_ld (Says.own .head) Tryd.isAgg24 rfl (Nat.zero_add _).symm rfl) (.keep .nil) (Fz.le.refl _) ?_
  refine dT 2 rfl rfl rfl (by kernel_rfl) (fun _ _ _ h => h) (y_mv rfl) (.keep .nil) (Fz.le.refl _) ?_
  refine dT 3 rfl rfl rfl (by kernel_rfl) (fun _ _ _ h => h) (y_mv rfl) (.keep .nil) (Fz.le.refl _) ?_
  refine dE 4 (by kernel_rfl) rfl ?_
  have hbd9 : x.length ≤ 1000000000000 := hxl
  refine apn (news := bytesOf x) Tryd.underlying22 I5 rfl rfl (src_bytes Tryd.underlying22 hx rfl) (by omega) (by unfold maxLen; omega) rfl (fun a9 c9 N9 r9 => ?_)
  refine frL r9 .head (fun H2 hle2 hz => ?_)
  have hbq := BytesAt.row hz r9 (by unfold B47; omega)
  refine dN (.keep .nil) hle2 ?_
  refine dT 5 rfl rfl rfl (by kernel_rfl) (fun _ _ _ h => h) (y_bd S61 rfl rfl) (.keep .nil) hle2 ?_
  refine dE 6 (by kernel_rfl) rfl ?_
  refine bs' L24 rfl rfl rfl rfl (fun b_1 => ?_)
  refine dN (.skip (.keep .nil)) hle2 ?_
  refine dE 7 (by kernel_rfl) rfl ?_
  refine ap (k := 1) (news := gcf ((⟨a9, c9⟩ : GC), (k, x))) Tryd.underlying24 I61 rfl rfl hr (fun _ => (.tail (.tail .head))) (src_says Tryd.underlying24 rfl (fun _ => Says.own .head) (gcf_one _)) (by omega) (by unfold maxLen; omega) rfl (fun a12 c12 N12 r12 z12 => ?_)
  refine dN (.skip (.keep .nil)) hle2 ?_
  refine dT 8 rfl rfl rfl (by kernel_rfl) (fun _ _ _ h => h) (y_fa0 F26_4 rfl) (.skip (.keep .nil)) hle2 ?_
  refine dE 9 (by kernel_rfl) rfl ?_
  refine st Tryd.sizeOf24 rfl rfl rfl rfl (.tail .head) ?_
  refine dNk (by kernel_rfl) ?_
  refine dD (by kernel_rfl) ?_
  refine drN .head ?_
  exact fun _ _ hA hw => rn rfl hle2 ⟨_, _, _, ⟨a9, c9⟩, rfl, r12, ⟨hbq, h0, h1⟩⟩ hA hw
theorem tc_150 {H : Fz} {L : Own} {tb : Nat} {c0 c1 c2 c3 : Value} {a va : Option Addr} {m cap vc : Nat} {xs : List Value} {k : Int} {x : List UInt8} {N : Chunk} (hr : Row 61 2 a m cap xs N) (hm : m ≤ 1000000) (hx : BytesAt H va vc x) (hxl : x.length ≤ 1000000000000) (h0 : 0 ≤ k) (h1 : k < 4294967296) :
    Fn Tryd.prog 150 [.int .u32 k, .slice va x.length vc, .pointer (some ⟨tb, 0, none⟩)] H ([(tb, .cells [c0, c1, c2, c3, .slice a m cap].toArray 26 (0, 0))] :: N :: L) (fun _ H' L' => ∃ a' cap' N' g, L' = [(tb, .cells [c0, c1, c2, c3, .slice a' (m + 1) cap'].toArray 26 (0, 0))] :: N' :: L ∧ Row 61 2 a' (m + 1) cap' (xs ++ gcf (g, (k, x))) N' ∧ TagAt H' g (k, x)) := by
  refine Fn.mk Tryd.call150 Tryd.func150 rfl Tryd.ntmps150 rfl ?_
  refine rgD 9 (.keep .nil) mixed ?_
  refine dT 0 rfl rfl rfl (by kernel_rfl) (fun _ _ _ h => h) (y_fa0 F26_4 rfl) (.keep .nil) (Fz.le.refl _) ?_
  refine dT 1 rfl rfl rfl (by kernel_rfl) (fun _ _ _ h => h) (y_ld (Says.own .head) Tryd.isAgg24 rfl (Nat.zero_add _).symm rfl) (.keep .nil) (Fz.le.refl _) ?_
  refine dT 2 rfl rfl rfl (by kernel_rfl) (fun _ _ _ h => h) (y_mv rfl) (.keep .nil) (Fz.le.refl _) ?_
  refine dT 3 rfl rfl rfl (by kernel_rfl) (fun _ _ _ h => h) (y_mv rfl) (.keep .nil) (Fz.le.refl _) ?_
  refine dE 4 (by kernel_rfl) rfl ?_
  have hbd9 : x.length ≤ 1000000000000 := hxl
  refine apn (news := bytesOf x) Tryd.underlying22 I5 rfl rfl (src_bytes Tryd.underlying22 hx rfl) (by omega) (by unfold maxLen; omega) rfl (fun a9 c9 N9 r9 => ?_)
  refine frL r9 .head (fun H2 hle2 hz => ?_)
  have hbq := BytesAt.row hz r9 (by unfold B47; omega)
  refine dN (.keep .nil) hle2 ?_
  refine dT 5 rfl rfl rfl (by kernel_rfl) (fun _ _ _ h => h) (y_bd S61 rfl rfl) (.keep .nil) hle2 ?_
  refine dE 6 (by kernel_rfl) rfl ?_
  refine bs' L24 rfl rfl rfl rfl (fun b_1 => ?_)
  refine dN (.skip (.keep .nil)) hle2 ?_
  refine dE 7 (by kernel_rfl) rfl ?_
  refine ap (k := 1) (news := gcf ((⟨a9, c9⟩ : GC), (k, x))) Tryd.underlying24 I61 rfl rfl hr (fun _ => (.tail (.tail .head))) (src_says Tryd.underlying24 rfl (fun _ => Says.own .head) (gcf_one _)) (by omega) (by unfold maxLen; omega) rfl (fun a12 c12 N12 r12 z12 => ?_)
  refine dN (.skip (.keep .nil)) hle2 ?_
  refine dT 8 rfl rfl rfl (by kernel_rfl) (fun _ _ _ h => h) (y_fa0 F26_4 rfl) (.skip (.keep .nil)) hle2 ?_
  refine dE 9 (by kernel_rfl) rfl ?_
  refine st Tryd.sizeOf24 rfl rfl rfl rfl (.tail .head) ?_
  refine dNk (by kernel_rfl) ?_
  refine dD (by kernel_rfl) ?_
  refine drN .head ?_
  exact fun _ _ hA hw => rn rfl hle2 ⟨_, _, _, ⟨a9, c9⟩, rfl, r12, ⟨hbq, h0, h1⟩⟩ hA hw
theorem tc_155 {H : Fz} {L : Own} {tb : Nat} {c0 c1 c2 c3 : Value} {a va : Option Addr} {m cap vc : Nat} {xs : List Value} {k : Int} {x : List UInt8} {N : Chunk} (hr : Row 61 2 a m cap xs N) (hm : m ≤ 1000000) (hx : BytesAt H va vc x) (hxl : x.length ≤ 1000000000000) (h0 : 0 ≤ k) (h1 : k < 4294967296) :
    Fn Tryd.prog 155 [.int .u32 k, .slice va x.length vc, .pointer (some ⟨tb, 0, none⟩)] H ([(tb, .cells [c0, c1, c2, c3, .slice a m cap].toArray 26 (0, 0))] :: N :: L) (fun _ H' L' => ∃ a' cap' N' g, L' = [(tb, .cells [c0, c1, c2, c3, .slice a' (m + 1) cap'].toArray 26 (0, 0))] :: N' :: L ∧ Row 61 2 a' (m + 1) cap' (xs ++ gcf (g, (k, x))) N' ∧ TagAt H' g (k, x)) := by
  refine Fn.mk Tryd.call155 Tryd.func155 rfl Tryd.ntmps155 rfl ?_
  refine rgD 9 (.keep .nil) mixed ?_
  refine dT 0 rfl rfl rfl (by kernel_rfl) (fun _ _ _ h => h) (y_fa0 F26_4 rfl) (.keep .nil) (Fz.le.refl _) ?_
  refine dT 1 rfl rfl rfl (by kernel_rfl) (fun _ _ _ h => h) (y_ld (Says.own .head) Tryd.isAgg24 rfl (Nat.zero_add _).symm rfl) (.keep .nil) (Fz.le.refl _) ?_
  refine dT 2 rfl rfl rfl (by kernel_rfl) (fun _ _ _ h => h) (y_mv rfl) (.keep .nil) (Fz.le.refl _) ?_
  refine dT 3 rfl rfl rfl (by kernel_rfl) (fun _ _ _ h => h) (y_mv rfl) (.keep .nil) (Fz.le.refl _) ?_
  refine dE 4 (by kernel_rfl) rfl ?_
  have hbd9 : x.length ≤ 1000000000000 := hxl
  refine apn (news := bytesOf x) Tryd.underlying22 I5 rfl rfl (src_bytes Tryd.underlying22 hx rfl) (by omega) (by unfold maxLen; omega) rfl (fun a9 c9 N9 r9 => ?_)
  refine frL r9 .head (fun H2 hle2 hz => ?_)
  have hbq := BytesAt.row hz r9 (by unfold B47; omega)
  refine dN (.keep .nil) hle2 ?_
  refine dT 5 rfl rfl rfl (by kernel_rfl) (fun _ _ _ h => h) (y_bd S61 rfl rfl) (.keep .nil) hle2 ?_
  refine dE 6 (by kernel_rfl) rfl ?_
  refine bs' L24 rfl rfl rfl rfl (fun b_1 => ?_)
  refine dN (.skip (.keep .nil)) hle2 ?_
  refine dE 7 (by kernel_rfl) rfl ?_
  refine ap (k := 1) (news := gcf ((⟨a9, c9⟩ : GC), (k, x))) Tryd.underlying24 I61 rfl rfl hr (fun _ => (.tail (.tail .head))) (src_says Tryd.underlying24 rfl (fun _ => Says.own .head) (gcf_one _)) (by omega) (by unfold maxLen; omega) rfl (fun a12 c12 N12 r12 z12 => ?_)
  refine dN (.skip (.keep .nil)) hle2 ?_
  refine dT 8 rfl rfl rfl (by kernel_rfl) (fun _ _ _ h => h) (y_fa0 F26_4 rfl) (.skip (.keep .nil)) hle2 ?_
  refine dE 9 (by kernel_rfl) rfl ?_
  refine st Tryd.sizeOf24 rfl rfl rfl rfl (.tail .head) ?_
  refine dNk (by kernel_rfl) ?_
  refine dD (by kernel_rfl) ?_
  refine drN .head ?_
  exact fun _ _ hA hw => rn rfl hle2 ⟨_, _, _, ⟨a9, c9⟩, rfl, r12, ⟨hbq, h0, h1⟩⟩ hA hw
theorem tc_160 {H : Fz} {L : Own} {tb : Nat} {c0 c1 c2 c3 : Value} {a va : Option Addr} {m cap vc : Nat} {xs : List Value} {k : Int} {x : List UInt8} {N : Chunk} (hr : Row 61 2 a m cap xs N) (hm : m ≤ 1000000) (hx : BytesAt H va vc x) (hxl : x.length ≤ 1000000000000) (h0 : 0 ≤ k) (h1 : k < 4294967296) :
    Fn Tryd.prog 160 [.int .u32 k, .slice va x.length vc, .pointer (some ⟨tb, 0, none⟩)] H ([(tb, .cells [c0, c1, c2, c3, .slice a m cap].toArray 26 (0, 0))] :: N :: L) (fun _ H' L' => ∃ a' cap' N' g, L' = [(tb, .cells [c0, c1, c2, c3, .slice a' (m + 1) cap'].toArray 26 (0, 0))] :: N' :: L ∧ Row 61 2 a' (m + 1) cap' (xs ++ gcf (g, (k, x))) N' ∧ TagAt H' g (k, x)) := by
  refine Fn.mk Tryd.call160 Tryd.func160 rfl Tryd.ntmps160 rfl ?_
  refine rgD 9 (.keep .nil) mixed ?_
  refine dT 0 rfl rfl rfl (by kernel_rfl) (fun _ _ _ h => h) (y_fa0 F26_4 rfl) (.keep .nil) (Fz.le.refl _) ?_
  refine dT 1 rfl rfl rfl (by kernel_rfl) (fun _ _ _ h => h) (y_ld (Says.own .head) Tryd.isAgg24 rfl (Nat.zero_add _).symm rfl) (.keep .nil) (Fz.le.refl _) ?_
  refine dT 2 rfl rfl rfl (by kernel_rfl) (fun _ _ _ h => h) (y_mv rfl) (.keep .nil) (Fz.le.refl _) ?_
  refine dT 3 rfl rfl rfl (by kernel_rfl) (fun _ _ _ h => h) (y_mv rfl) (.keep .nil) (Fz.le.refl _) ?_
  refine dE 4 (by kernel_rfl) rfl ?_
  have hbd9 : x.length ≤ 1000000000000 := hxl
  refine apn (news := bytesOf x) Tryd.underlying22 I5 rfl rfl (src_bytes Tryd.underlying22 hx rfl) (by omega) (by unfold maxLen; omega) rfl (fun a9 c9 N9 r9 => ?_)
  refine frL r9 .head (fun H2 hle2 hz => ?_)
  have hbq := BytesAt.row hz r9 (by unfold B47; omega)
  refine dN (.keep .nil) hle2 ?_
  refine dT 5 rfl rfl rfl (by kernel_rfl) (fun _ _ _ h => h) (y_bd S61 rfl rfl) (.keep .nil) hle2 ?_
  refine dE 6 (by kernel_rfl) rfl ?_
  refine bs' L24 rfl rfl rfl rfl (fun b_1 => ?_)
  refine dN (.skip (.keep .nil)) hle2 ?_
  refine dE 7 (by kernel_rfl) rfl ?_
  refine ap (k := 1) (news := gcf ((⟨a9, c9⟩ : GC), (k, x))) Tryd.underlying24 I61 rfl rfl hr (fun _ => (.tail (.tail .head))) (src_says Tryd.underlying24 rfl (fun _ => Says.own .head) (gcf_one _)) (by omega) (by unfold maxLen; omega) rfl (fun a12 c12 N12 r12 z12 => ?_)
  refine dN (.skip (.keep .nil)) hle2 ?_
  refine dT 8 rfl rfl rfl (by kernel_rfl) (fun _ _ _ h => h) (y_fa0 F26_4 rfl) (.skip (.keep .nil)) hle2 ?_
  refine dE 9 (by kernel_rfl) rfl ?_
  refine st Tryd.sizeOf24 rfl rfl rfl rfl (.tail .head) ?_
  refine dNk (by kernel_rfl) ?_
  refine dD (by kernel_rfl) ?_
  refine drN .head ?_
  exact fun _ _ hA hw => rn rfl hle2 ⟨_, _, _, ⟨a9, c9⟩, rfl, r12, ⟨hbq, h0, h1⟩⟩ hA hw
theorem tc_165 {H : Fz} {L : Own} {tb : Nat} {c0 c1 c2 c3 : Value} {a va : Option Addr} {m cap vc : Nat} {xs : List Value} {k : Int} {x : List UInt8} {N : Chunk} (hr : Row 61 2 a m cap xs N) (hm : m ≤ 1000000) (hx : BytesAt H va vc x) (hxl : x.length ≤ 1000000000000) (h0 : 0 ≤ k) (h1 : k < 4294967296) :
    Fn Tryd.prog 165 [.int .u32 k, .slice va x.length vc, .pointer (some ⟨tb, 0, none⟩)] H ([(tb, .cells [c0, c1, c2, c3, .slice a m cap].toArray 26 (0, 0))] :: N :: L) (fun _ H' L' => ∃ a' cap' N' g, L' = [(tb, .cells [c0, c1, c2, c3, .slice a' (m + 1) cap'].toArray 26 (0, 0))] :: N' :: L ∧ Row 61 2 a' (m + 1) cap' (xs ++ gcf (g, (k, x))) N' ∧ TagAt H' g (k, x)) := by
  refine Fn.mk Tryd.call165 Tryd.func165 rfl Tryd.ntmps165 rfl ?_
  refine rgD 9 (.keep .nil) mixed ?_
  refine dT 0 rfl rfl rfl (by kernel_rfl) (fun _ _ _ h => h) (y_fa0 F26_4 rfl) (.keep .nil) (Fz.le.refl _) ?_
  refine dT 1 rfl rfl rfl (by kernel_rfl) (fun _ _ _ h => h) (y_ld (Says.own .head) Tryd.isAgg24 rfl (Nat.zero_add _).symm rfl) (.keep .nil) (Fz.le.refl _) ?_
  refine dT 2 rfl rfl rfl (by kernel_rfl) (fun _ _ _ h => h) (y_mv rfl) (.keep .nil) (Fz.le.refl _) ?_
  refine dT 3 rfl rfl rfl (by kernel_rfl) (fun _ _ _ h => h) (y_mv rfl) (.keep .nil) (Fz.le.refl _) ?_
  refine dE 4 (by kernel_rfl) rfl ?_
  have hbd9 : x.length ≤ 1000000000000 := hxl
  refine apn (news := bytesOf x) Tryd.underlying22 I5 rfl rfl (src_bytes Tryd.underlying22 hx rfl) (by omega) (by unfold maxLen; omega) rfl (fun a9 c9 N9 r9 => ?_)
  refine frL r9 .head (fun H2 hle2 hz => ?_)
  have hbq := BytesAt.row hz r9 (by unfold B47; omega)
  refine dN (.keep .nil) hle2 ?_
  refine dT 5 rfl rfl rfl (by kernel_rfl) (fun _ _ _ h => h) (y_bd S61 rfl rfl) (.keep .nil) hle2 ?_
  refine dE 6 (by kernel_rfl) rfl ?_
  refine bs' L24 rfl rfl rfl rfl (fun b_1 => ?_)
  refine dN (.skip (.keep .nil)) hle2 ?_
  refine dE 7 (by kernel_rfl) rfl ?_
  refine ap (k := 1) (news := gcf ((⟨a9, c9⟩ : GC), (k, x))) Tryd.underlying24 I61 rfl rfl hr (fun _ => (.tail (.tail .head))) (src_says Tryd.underlying24 rfl (fun _ => Says.own .head) (gcf_one _)) (by omega) (by unfold maxLen; omega) rfl (fun a12 c12 N12 r12 z12 => ?_)
  refine dN (.skip (.keep .nil)) hle2 ?_
  refine dT 8 rfl rfl rfl (by kernel_rfl) (fun _ _ _ h => h) (y_fa0 F26_4 rfl) (.skip (.keep .nil)) hle2 ?_
  refine dE 9 (by kernel_rfl) rfl ?_
  refine st Tryd.sizeOf24 rfl rfl rfl rfl (.tail .head) ?_
  refine dNk (by kernel_rfl) ?_
  refine dD (by kernel_rfl) ?_
  refine drN .head ?_
  exact fun _ _ hA hw => rn rfl hle2 ⟨_, _, _, ⟨a9, c9⟩, rfl, r12, ⟨hbq, h0, h1⟩⟩ hA hw
theorem tc_190 {H : Fz} {L : Own} {tb : Nat} {c0 c1 c2 c3 : Value} {a va : Option Addr} {m cap vc : Nat} {xs : List Value} {k : Int} {x : List UInt8} {N : Chunk} (hr : Row 61 2 a m cap xs N) (hm : m ≤ 1000000) (hx : BytesAt H va vc x) (hxl : x.length ≤ 1000000000000) (h0 : 0 ≤ k) (h1 : k < 4294967296) :
    Fn Tryd.prog 190 [.int .u32 k, .slice va x.length vc, .pointer (some ⟨tb, 0, none⟩)] H ([(tb, .cells [c0, c1, c2, c3, .slice a m cap].toArray 26 (0, 0))] :: N :: L) (fun _ H' L' => ∃ a' cap' N' g, L' = [(tb, .cells [c0, c1, c2, c3, .slice a' (m + 1) cap'].toArray 26 (0, 0))] :: N' :: L ∧ Row 61 2 a' (m + 1) cap' (xs ++ gcf (g, (k, x))) N' ∧ TagAt H' g (k, x)) := by
  refine Fn.mk Tryd.call190 Tryd.func190 rfl Tryd.ntmps190 rfl ?_
  refine rgD 9 (.keep .nil) mixed ?_
  refine dT 0 rfl rfl rfl (by kernel_rfl) (fun _ _ _ h => h) (y_fa0 F26_4 rfl) (.keep .nil) (Fz.le.refl _) ?_
  refine dT 1 rfl rfl rfl (by kernel_rfl) (fun _ _ _ h => h) (y_ld (Says.own .head) Tryd.isAgg24 rfl (Nat.zero_add _).symm rfl) (.keep .nil) (Fz.le.refl _) ?_
  refine dT 2 rfl rfl rfl (by kernel_rfl) (fun _ _ _ h => h) (y_mv rfl) (.keep .nil) (Fz.le.refl _) ?_
  refine dT 3 rfl rfl rfl (by kernel_rfl) (fun _ _ _ h => h) (y_mv rfl) (.keep .nil) (Fz.le.refl _) ?_
  refine dE 4 (by kernel_rfl) rfl ?_
  have hbd9 : x.length ≤ 1000000000000 := hxl
  refine apn (news := bytesOf x) Tryd.underlying22 I5 rfl rfl (src_bytes Tryd.underlying22 hx rfl) (by omega) (by unfold maxLen; omega) rfl (fun a9 c9 N9 r9 => ?_)
  refine frL r9 .head (fun H2 hle2 hz => ?_)
  have hbq := BytesAt.row hz r9 (by unfold B47; omega)
  refine dN (.keep .nil) hle2 ?_
  refine dT 5 rfl rfl rfl (by kernel_rfl) (fun _ _ _ h => h) (y_bd S61 rfl rfl) (.keep .nil) hle2 ?_
  refine dE 6 (by kernel_rfl) rfl ?_
  refine bs' L24 rfl rfl rfl rfl (fun b_1 => ?_)
  refine dN (.skip (.keep .nil)) hle2 ?_
  refine dE 7 (by kernel_rfl) rfl ?_
  refine ap (k := 1) (news := gcf ((⟨a9, c9⟩ : GC), (k, x))) Tryd.underlying24 I61 rfl rfl hr (fun _ => (.tail (.tail .head))) (src_says Tryd.underlying24 rfl (fun _ => Says.own .head) (gcf_one _)) (by omega) (by unfold maxLen; omega) rfl (fun a12 c12 N12 r12 z12 => ?_)
  refine dN (.skip (.keep .nil)) hle2 ?_
  refine dT 8 rfl rfl rfl (by kernel_rfl) (fun _ _ _ h => h) (y_fa0 F26_4 rfl) (.skip (.keep .nil)) hle2 ?_
  refine dE 9 (by kernel_rfl) rfl ?_
  refine st Tryd.sizeOf24 rfl rfl rfl rfl (.tail .head) ?_
  refine dNk (by kernel_rfl) ?_
  refine dD (by kernel_rfl) ?_
  refine drN .head ?_
  exact fun _ _ hA hw => rn rfl hle2 ⟨_, _, _, ⟨a9, c9⟩, rfl, r12, ⟨hbq, h0, h1⟩⟩ hA hw
theorem tc_197 {H : Fz} {L : Own} {tb : Nat} {c0 c1 c2 c3 : Value} {a va : Option Addr} {m cap vc : Nat} {xs : List Value} {k : Int} {x : List UInt8} {N : Chunk} (hr : Row 61 2 a m cap xs N) (hm : m ≤ 1000000) (hx : BytesAt H va vc x) (hxl : x.length ≤ 1000000000000) (h0 : 0 ≤ k) (h1 : k < 4294967296) :
    Fn Tryd.prog 197 [.int .u32 k, .slice va x.length vc, .pointer (some ⟨tb, 0, none⟩)] H ([(tb, .cells [c0, c1, c2, c3, .slice a m cap].toArray 26 (0, 0))] :: N :: L) (fun _ H' L' => ∃ a' cap' N' g, L' = [(tb, .cells [c0, c1, c2, c3, .slice a' (m + 1) cap'].toArray 26 (0, 0))] :: N' :: L ∧ Row 61 2 a' (m + 1) cap' (xs ++ gcf (g, (k, x))) N' ∧ TagAt H' g (k, x)) := by
  refine Fn.mk Tryd.call197 Tryd.func197 rfl Tryd.ntmps197 rfl ?_
  refine rgD 9 (.keep .nil) mixed ?_
  refine dT 0 rfl rfl rfl (by kernel_rfl) (fun _ _ _ h => h) (y_fa0 F26_4 rfl) (.keep .nil) (Fz.le.refl _) ?_
  refine dT 1 rfl rfl rfl (by kernel_rfl) (fun _ _ _ h => h) (y_ld (Says.own .head) Tryd.isAgg24 rfl (Nat.zero_add _).symm rfl) (.keep .nil) (Fz.le.refl _) ?_
  refine dT 2 rfl rfl rfl (by kernel_rfl) (fun _ _ _ h => h) (y_mv rfl) (.keep .nil) (Fz.le.refl _) ?_
  refine dT 3 rfl rfl rfl (by kernel_rfl) (fun _ _ _ h => h) (y_mv rfl) (.keep .nil) (Fz.le.refl _) ?_
  refine dE 4 (by kernel_rfl) rfl ?_
  have hbd9 : x.length ≤ 1000000000000 := hxl
  refine apn (news := bytesOf x) Tryd.underlying22 I5 rfl rfl (src_bytes Tryd.underlying22 hx rfl) (by omega) (by unfold maxLen; omega) rfl (fun a9 c9 N9 r9 => ?_)
  refine frL r9 .head (fun H2 hle2 hz => ?_)
  have hbq := BytesAt.row hz r9 (by unfold B47; omega)
  refine dN (.keep .nil) hle2 ?_
  refine dT 5 rfl rfl rfl (by kernel_rfl) (fun _ _ _ h => h) (y_bd S61 rfl rfl) (.keep .nil) hle2 ?_
  refine dE 6 (by kernel_rfl) rfl ?_
  refine bs' L24 rfl rfl rfl rfl (fun b_1 => ?_)
  refine dN (.skip (.keep .nil)) hle2 ?_
  refine dE 7 (by kernel_rfl) rfl ?_
  refine ap (k := 1) (news := gcf ((⟨a9, c9⟩ : GC), (k, x))) Tryd.underlying24 I61 rfl rfl hr (fun _ => (.tail (.tail .head))) (src_says Tryd.underlying24 rfl (fun _ => Says.own .head) (gcf_one _)) (by omega) (by unfold maxLen; omega) rfl (fun a12 c12 N12 r12 z12 => ?_)
  refine dN (.skip (.keep .nil)) hle2 ?_
  refine dT 8 rfl rfl rfl (by kernel_rfl) (fun _ _ _ h => h) (y_fa0 F26_4 rfl) (.skip (.keep .nil)) hle2 ?_
  refine dE 9 (by kernel_rfl) rfl ?_
  refine st Tryd.sizeOf24 rfl rfl rfl rfl (.tail .head) ?_
  refine dNk (by kernel_rfl) ?_
  refine dD (by kernel_rfl) ?_
  refine drN .head ?_
  exact fun _ _ hA hw => rn rfl hle2 ⟨_, _, _, ⟨a9, c9⟩, rfl, r12, ⟨hbq, h0, h1⟩⟩ hA hw
theorem tc_202 {H : Fz} {L : Own} {tb : Nat} {c0 c1 c2 c3 : Value} {a va : Option Addr} {m cap vc : Nat} {xs : List Value} {k : Int} {x : List UInt8} {N : Chunk} (hr : Row 61 2 a m cap xs N) (hm : m ≤ 1000000) (hx : BytesAt H va vc x) (hxl : x.length ≤ 1000000000000) (h0 : 0 ≤ k) (h1 : k < 4294967296) :
    Fn Tryd.prog 202 [.int .u32 k, .slice va x.length vc, .pointer (some ⟨tb, 0, none⟩)] H ([(tb, .cells [c0, c1, c2, c3, .slice a m cap].toArray 26 (0, 0))] :: N :: L) (fun _ H' L' => ∃ a' cap' N' g, L' = [(tb, .cells [c0, c1, c2, c3, .slice a' (m + 1) cap'].toArray 26 (0, 0))] :: N' :: L ∧ Row 61 2 a' (m + 1) cap' (xs ++ gcf (g, (k, x))) N' ∧ TagAt H' g (k, x)) := by
  refine Fn.mk Tryd.call202 Tryd.func202 rfl Tryd.ntmps202 rfl ?_
  refine rgD 9 (.keep .nil) mixed ?_
  refine dT 0 rfl rfl rfl (by kernel_rfl) (fun _ _ _ h => h) (y_fa0 F26_4 rfl) (.keep .nil) (Fz.le.refl _) ?_
  refine dT 1 rfl rfl rfl (by kernel_rfl) (fun _ _ _ h => h) (y_ld (Says.own .head) Tryd.isAgg24 rfl (Nat.zero_add _).symm rfl) (.keep .nil) (Fz.le.refl _) ?_
  refine dT 2 rfl rfl rfl (by kernel_rfl) (fun _ _ _ h => h) (y_mv rfl) (.keep .nil) (Fz.le.refl _) ?_
  refine dT 3 rfl rfl rfl (by kernel_rfl) (fun _ _ _ h => h) (y_mv rfl) (.keep .nil) (Fz.le.refl _) ?_
  refine dE 4 (by kernel_rfl) rfl ?_
  have hbd9 : x.length ≤ 1000000000000 := hxl
  refine apn (news := bytesOf x) Tryd.underlying22 I5 rfl rfl (src_bytes Tryd.underlying22 hx rfl) (by omega) (by unfold maxLen; omega) rfl (fun a9 c9 N9 r9 => ?_)
  refine frL r9 .head (fun H2 hle2 hz => ?_)
  have hbq := BytesAt.row hz r9 (by unfold B47; omega)
  refine dN (.keep .nil) hle2 ?_
  refine dT 5 rfl rfl rfl (by kernel_rfl) (fun _ _ _ h => h) (y_bd S61 rfl rfl) (.keep .nil) hle2 ?_
  refine dE 6 (by kernel_rfl) rfl ?_
  refine bs' L24 rfl rfl rfl rfl (fun b_1 => ?_)
  refine dN (.skip (.keep .nil)) hle2 ?_
  refine dE 7 (by kernel_rfl) rfl ?_
  refine ap (k := 1) (news := gcf ((⟨a9, c9⟩ : GC), (k, x))) Tryd.underlying24 I61 rfl rfl hr (fun _ => (.tail (.tail .head))) (src_says Tryd.underlying24 rfl (fun _ => Says.own .head) (gcf_one _)) (by omega) (by unfold maxLen; omega) rfl (fun a12 c12 N12 r12 z12 => ?_)
  refine dN (.skip (.keep .nil)) hle2 ?_
  refine dT 8 rfl rfl rfl (by kernel_rfl) (fun _ _ _ h => h) (y_fa0 F26_4 rfl) (.skip (.keep .nil)) hle2 ?_
  refine dE 9 (by kernel_rfl) rfl ?_
  refine st Tryd.sizeOf24 rfl rfl rfl rfl (.tail .head) ?_
  refine dNk (by kernel_rfl) ?_
  refine dD (by kernel_rfl) ?_
  refine drN .head ?_
  exact fun _ _ hA hw => rn rfl hle2 ⟨_, _, _, ⟨a9, c9⟩, rfl, r12, ⟨hbq, h0, h1⟩⟩ hA hw
theorem tc_205 {H : Fz} {L : Own} {tb : Nat} {c0 c1 c2 c3 : Value} {a va : Option Addr} {m cap vc : Nat} {xs : List Value} {k : Int} {x : List UInt8} {N : Chunk} (hr : Row 61 2 a m cap xs N) (hm : m ≤ 1000000) (hx : BytesAt H va vc x) (hxl : x.length ≤ 1000000000000) (h0 : 0 ≤ k) (h1 : k < 4294967296) :
    Fn Tryd.prog 205 [.int .u32 k, .slice va x.length vc, .pointer (some ⟨tb, 0, none⟩)] H ([(tb, .cells [c0, c1, c2, c3, .slice a m cap].toArray 26 (0, 0))] :: N :: L) (fun _ H' L' => ∃ a' cap' N' g, L' = [(tb, .cells [c0, c1, c2, c3, .slice a' (m + 1) cap'].toArray 26 (0, 0))] :: N' :: L ∧ Row 61 2 a' (m + 1) cap' (xs ++ gcf (g, (k, x))) N' ∧ TagAt H' g (k, x)) := by
  refine Fn.mk Tryd.call205 Tryd.func205 rfl Tryd.ntmps205 rfl ?_
  refine rgD 9 (.keep .nil) mixed ?_
  refine dT 0 rfl rfl rfl (by kernel_rfl) (fun _ _ _ h => h) (y_fa0 F26_4 rfl) (.keep .nil) (Fz.le.refl _) ?_
  refine dT 1 rfl rfl rfl (by kernel_rfl) (fun _ _ _ h => h) (y_ld (Says.own .head) Tryd.isAgg24 rfl (Nat.zero_add _).symm rfl) (.keep .nil) (Fz.le.refl _) ?_
  refine dT 2 rfl rfl rfl (by kernel_rfl) (fun _ _ _ h => h) (y_mv rfl) (.keep .nil) (Fz.le.refl _) ?_
  refine dT 3 rfl rfl rfl (by kernel_rfl) (fun _ _ _ h => h) (y_mv rfl) (.keep .nil) (Fz.le.refl _) ?_
  refine dE 4 (by kernel_rfl) rfl ?_
  have hbd9 : x.length ≤ 1000000000000 := hxl
  refine apn (news := bytesOf x) Tryd.underlying22 I5 rfl rfl (src_bytes Tryd.underlying22 hx rfl) (by omega) (by unfold maxLen; omega) rfl (fun a9 c9 N9 r9 => ?_)
  refine frL r9 .head (fun H2 hle2 hz => ?_)
  have hbq := BytesAt.row hz r9 (by unfold B47; omega)
  refine dN (.keep .nil) hle2 ?_
  refine dT 5 rfl rfl rfl (by kernel_rfl) (fun _ _ _ h => h) (y_bd S61 rfl rfl) (.keep .nil) hle2 ?_
  refine dE 6 (by kernel_rfl) rfl ?_
  refine bs' L24 rfl rfl rfl rfl (fun b_1 => ?_)
  refine dN (.skip (.keep .nil)) hle2 ?_
  refine dE 7 (by kernel_rfl) rfl ?_
  refine ap (k := 1) (news := gcf ((⟨a9, c9⟩ : GC), (k, x))) Tryd.underlying24 I61 rfl rfl hr (fun _ => (.tail (.tail .head))) (src_says Tryd.underlying24 rfl (fun _ => Says.own .head) (gcf_one _)) (by omega) (by unfold maxLen; omega) rfl (fun a12 c12 N12 r12 z12 => ?_)
  refine dN (.skip (.keep .nil)) hle2 ?_
  refine dT 8 rfl rfl rfl (by kernel_rfl) (fun _ _ _ h => h) (y_fa0 F26_4 rfl) (.skip (.keep .nil)) hle2 ?_
  refine dE 9 (by kernel_rfl) rfl ?_
  refine st Tryd.sizeOf24 rfl rfl rfl rfl (.tail .head) ?_
  refine dNk (by kernel_rfl) ?_
  refine dD (by kernel_rfl) ?_
  refine drN .head ?_
  exact fun _ _ hA hw => rn rfl hle2 ⟨_, _, _, ⟨a9, c9⟩, rfl, r12, ⟨hbq, h0, h1⟩⟩ hA hw
theorem tc_209 {H : Fz} {L : Own} {tb : Nat} {c0 c1 c2 c3 : Value} {a va : Option Addr} {m cap vc : Nat} {xs : List Value} {k : Int} {x : List UInt8} {N : Chunk} (hr : Row 61 2 a m cap xs N) (hm : m ≤ 1000000) (hx : BytesAt H va vc x) (hxl : x.length ≤ 1000000000000) (h0 : 0 ≤ k) (h1 : k < 4294967296) :
    Fn Tryd.prog 209 [.int .u32 k, .slice va x.length vc, .pointer (some ⟨tb, 0, none⟩)] H ([(tb, .cells [c0, c1, c2, c3, .slice a m cap].toArray 26 (0, 0))] :: N :: L) (fun _ H' L' => ∃ a' cap' N' g, L' = [(tb, .cells [c0, c1, c2, c3, .slice a' (m + 1) cap'].toArray 26 (0, 0))] :: N' :: L ∧ Row 61 2 a' (m + 1) cap' (xs ++ gcf (g, (k, x))) N' ∧ TagAt H' g (k, x)) := by
  refine Fn.mk Tryd.call209 Tryd.func209 rfl Tryd.ntmps209 rfl ?_
  refine rgD 9 (.keep .nil) mixed ?_
  refine dT 0 rfl rfl rfl (by kernel_rfl) (fun _ _ _ h => h) (y_fa0 F26_4 rfl) (.keep .nil) (Fz.le.refl _) ?_
  refine dT 1 rfl rfl rfl (by kernel_rfl) (fun _ _ _ h => h) (y_ld (Says.own .head) Tryd.isAgg24 rfl (Nat.zero_add _).symm rfl) (.keep .nil) (Fz.le.refl _) ?_
  refine dT 2 rfl rfl rfl (by kernel_rfl) (fun _ _ _ h => h) (y_mv rfl) (.keep .nil) (Fz.le.refl _) ?_
  refine dT 3 rfl rfl rfl (by kernel_rfl) (fun _ _ _ h => h) (y_mv rfl) (.keep .nil) (Fz.le.refl _) ?_
  refine dE 4 (by kernel_rfl) rfl ?_
  have hbd9 : x.length ≤ 1000000000000 := hxl
  refine apn (news := bytesOf x) Tryd.underlying22 I5 rfl rfl (src_bytes Tryd.underlying22 hx rfl) (by omega) (by unfold maxLen; omega) rfl (fun a9 c9 N9 r9 => ?_)
  refine frL r9 .head (fun H2 hle2 hz => ?_)
  have hbq := BytesAt.row hz r9 (by unfold B47; omega)
  refine dN (.keep .nil) hle2 ?_
  refine dT 5 rfl rfl rfl (by kernel_rfl) (fun _ _ _ h => h) (y_bd S61 rfl rfl) (.keep .nil) hle2 ?_
  refine dE 6 (by kernel_rfl) rfl ?_
  refine bs' L24 rfl rfl rfl rfl (fun b_1 => ?_)
  refine dN (.skip (.keep .nil)) hle2 ?_
  refine dE 7 (by kernel_rfl) rfl ?_
  refine ap (k := 1) (news := gcf ((⟨a9, c9⟩ : GC), (k, x))) Tryd.underlying24 I61 rfl rfl hr (fun _ => (.tail (.tail .head))) (src_says Tryd.underlying24 rfl (fun _ => Says.own .head) (gcf_one _)) (by omega) (by unfold maxLen; omega) rfl (fun a12 c12 N12 r12 z12 => ?_)
  refine dN (.skip (.keep .nil)) hle2 ?_
  refine dT 8 rfl rfl rfl (by kernel_rfl) (fun _ _ _ h => h) (y_fa0 F26_4 rfl) (.skip (.keep .nil)) hle2 ?_
  refine dE 9 (by kernel_rfl) rfl ?_
  refine st Tryd.sizeOf24 rfl rfl rfl rfl (.tail .head) ?_
  refine dNk (by kernel_rfl) ?_
  refine dD (by kernel_rfl) ?_
  refine drN .head ?_
  exact fun _ _ hA hw => rn rfl hle2 ⟨_, _, _, ⟨a9, c9⟩, rfl, r12, ⟨hbq, h0, h1⟩⟩ hA hw
theorem tc_215 {H : Fz} {L : Own} {tb : Nat} {c0 c1 c2 c3 : Value} {a va : Option Addr} {m cap vc : Nat} {xs : List Value} {k : Int} {x : List UInt8} {N : Chunk} (hr : Row 61 2 a m cap xs N) (hm : m ≤ 1000000) (hx : BytesAt H va vc x) (hxl : x.length ≤ 1000000000000) (h0 : 0 ≤ k) (h1 : k < 4294967296) :
    Fn Tryd.prog 215 [.int .u32 k, .slice va x.length vc, .pointer (some ⟨tb, 0, none⟩)] H ([(tb, .cells [c0, c1, c2, c3, .slice a m cap].toArray 26 (0, 0))] :: N :: L) (fun _ H' L' => ∃ a' cap' N' g, L' = [(tb, .cells [c0, c1, c2, c3, .slice a' (m + 1) cap'].toArray 26 (0, 0))] :: N' :: L ∧ Row 61 2 a' (m + 1) cap' (xs ++ gcf (g, (k, x))) N' ∧ TagAt H' g (k, x)) := by
  refine Fn.mk Tryd.call215 Tryd.func215 rfl Tryd.ntmps215 rfl ?_
  refine rgD 9 (.keep .nil) mixed ?_
  refine dT 0 rfl rfl rfl (by kernel_rfl) (fun _ _ _ h => h) (y_fa0 F26_4 rfl) (.keep .nil) (Fz.le.refl _) ?_
  refine dT 1 rfl rfl rfl (by kernel_rfl) (fun _ _ _ h => h) (y_ld (Says.own .head) Tryd.isAgg24 rfl (Nat.zero_add _).symm rfl) (.keep .nil) (Fz.le.refl _) ?_
  refine dT 2 rfl rfl rfl (by kernel_rfl) (fun _ _ _ h => h) (y_mv rfl) (.keep .nil) (Fz.le.refl _) ?_
  refine dT 3 rfl rfl rfl (by kernel_rfl) (fun _ _ _ h => h) (y_mv rfl) (.keep .nil) (Fz.le.refl _) ?_
  refine dE 4 (by kernel_rfl) rfl ?_
  have hbd9 : x.length ≤ 1000000000000 := hxl
  refine apn (news := bytesOf x) Tryd.underlying22 I5 rfl rfl (src_bytes Tryd.underlying22 hx rfl) (by omega) (by unfold maxLen; omega) rfl (fun a9 c9 N9 r9 => ?_)
  refine frL r9 .head (fun H2 hle2 hz => ?_)
  have hbq := BytesAt.row hz r9 (by unfold B47; omega)
  refine dN (.keep .nil) hle2 ?_
  refine dT 5 rfl rfl rfl (by kernel_rfl) (fun _ _ _ h => h) (y_bd S61 rfl rfl) (.keep .nil) hle2 ?_
  refine dE 6 (by kernel_rfl) rfl ?_
  refine bs' L24 rfl rfl rfl rfl (fun b_1 => ?_)
  refine dN (.skip (.keep .nil)) hle2 ?_
  refine dE 7 (by kernel_rfl) rfl ?_
  refine ap (k := 1) (news := gcf ((⟨a9, c9⟩ : GC), (k, x))) Tryd.underlying24 I61 rfl rfl hr (fun _ => (.tail (.tail .head))) (src_says Tryd.underlying24 rfl (fun _ => Says.own .head) (gcf_one _)) (by omega) (by unfold maxLen; omega) rfl (fun a12 c12 N12 r12 z12 => ?_)
  refine dN (.skip (.keep .nil)) hle2 ?_
  refine dT 8 rfl rfl rfl (by kernel_rfl) (fun _ _ _ h => h) (y_fa0 F26_4 rfl) (.skip (.keep .nil)) hle2 ?_
  refine dE 9 (by kernel_rfl) rfl ?_
  refine st Tryd.sizeOf24 rfl rfl rfl rfl (.tail .head) ?_
  refine dNk (by kernel_rfl) ?_
  refine dD (by kernel_rfl) ?_
  refine drN .head ?_
  exact fun _ _ hA hw => rn rfl hle2 ⟨_, _, _, ⟨a9, c9⟩, rfl, r12, ⟨hbq, h0, h1⟩⟩ hA hw
theorem tc_216 {H : Fz} {L : Own} {tb : Nat} {c0 c1 c2 c3 : Value} {a va : Option Addr} {m cap vc : Nat} {xs : List Value} {k : Int} {x : List UInt8} {N : Chunk} (hr : Row 61 2 a m cap xs N) (hm : m ≤ 1000000) (hx : BytesAt H va vc x) (hxl : x.length ≤ 1000000000000) (h0 : 0 ≤ k) (h1 : k < 4294967296) :
    Fn Tryd.prog 216 [.int .u32 k, .slice va x.length vc, .pointer (some ⟨tb, 0, none⟩)] H ([(tb, .cells [c0, c1, c2, c3, .slice a m cap].toArray 26 (0, 0))] :: N :: L) (fun _ H' L' => ∃ a' cap' N' g, L' = [(tb, .cells [c0, c1, c2, c3, .slice a' (m + 1) cap'].toArray 26 (0, 0))] :: N' :: L ∧ Row 61 2 a' (m + 1) cap' (xs ++ gcf (g, (k, x))) N' ∧ TagAt H' g (k, x)) := by
  refine Fn.mk Tryd.call216 Tryd.func216 rfl Tryd.ntmps216 rfl ?_
  refine rgD 9 (.keep .nil) mixed ?_
  refine dT 0 rfl rfl rfl (by kernel_rfl) (fun _ _ _ h => h) (y_fa0 F26_4 rfl) (.keep .nil) (Fz.le.refl _) ?_
  refine dT 1 rfl rfl rfl (by kernel_rfl) (fun _ _ _ h => h) (y_ld (Says.own .head) Tryd.isAgg24 rfl (Nat.zero_add _).symm rfl) (.keep .nil) (Fz.le.refl _) ?_
  refine dT 2 rfl rfl rfl (by kernel_rfl) (fun _ _ _ h => h) (y_mv rfl) (.keep .nil) (Fz.le.refl _) ?_
  refine dT 3 rfl rfl rfl (by kernel_rfl) (fun _ _ _ h => h) (y_mv rfl) (.keep .nil) (Fz.le.refl _) ?_
  refine dE 4 (by kernel_rfl) rfl ?_
  have hbd9 : x.length ≤ 1000000000000 := hxl
  refine apn (news := bytesOf x) Tryd.underlying22 I5 rfl rfl (src_bytes Tryd.underlying22 hx rfl) (by omega) (by unfold maxLen; omega) rfl (fun a9 c9 N9 r9 => ?_)
  refine frL r9 .head (fun H2 hle2 hz => ?_)
  have hbq := BytesAt.row hz r9 (by unfold B47; omega)
  refine dN (.keep .nil) hle2 ?_
  refine dT 5 rfl rfl rfl (by kernel_rfl) (fun _ _ _ h => h) (y_bd S61 rfl rfl) (.keep .nil) hle2 ?_
  refine dE 6 (by kernel_rfl) rfl ?_
  refine bs' L24 rfl rfl rfl rfl (fun b_1 => ?_)
  refine dN (.skip (.keep .nil)) hle2 ?_
  refine dE 7 (by kernel_rfl) rfl ?_
  refine ap (k := 1) (news := gcf ((⟨a9, c9⟩ : GC), (k, x))) Tryd.underlying24 I61 rfl rfl hr (fun _ => (.tail (.tail .head))) (src_says Tryd.underlying24 rfl (fun _ => Says.own .head) (gcf_one _)) (by omega) (by unfold maxLen; omega) rfl (fun a12 c12 N12 r12 z12 => ?_)
  refine dN (.skip (.keep .nil)) hle2 ?_
  refine dT 8 rfl rfl rfl (by kernel_rfl) (fun _ _ _ h => h) (y_fa0 F26_4 rfl) (.skip (.keep .nil)) hle2 ?_
  refine dE 9 (by kernel_rfl) rfl ?_
  refine st Tryd.sizeOf24 rfl rfl rfl rfl (.tail .head) ?_
  refine dNk (by kernel_rfl) ?_
  refine dD (by kernel_rfl) ?_
  refine drN .head ?_
  exact fun _ _ hA hw => rn rfl hle2 ⟨_, _, _, ⟨a9, c9⟩, rfl, r12, ⟨hbq, h0, h1⟩⟩ hA hw
theorem tc_223 {H : Fz} {L : Own} {tb : Nat} {c0 c1 c2 c3 : Value} {a va : Option Addr} {m cap vc : Nat} {xs : List Value} {k : Int} {x : List UInt8} {N : Chunk} (hr : Row 61 2 a m cap xs N) (hm : m ≤ 1000000) (hx : BytesAt H va vc x) (hxl : x.length ≤ 1000000000000) (h0 : 0 ≤ k) (h1 : k < 4294967296) :
    Fn Tryd.prog 223 [.int .u32 k, .slice va x.length vc, .pointer (some ⟨tb, 0, none⟩)] H ([(tb, .cells [c0, c1, c2, c3, .slice a m cap].toArray 26 (0, 0))] :: N :: L) (fun _ H' L' => ∃ a' cap' N' g, L' = [(tb, .cells [c0, c1, c2, c3, .slice a' (m + 1) cap'].toArray 26 (0, 0))] :: N' :: L ∧ Row 61 2 a' (m + 1) cap' (xs ++ gcf (g, (k, x))) N' ∧ TagAt H' g (k, x)) := by
  refine Fn.mk Tryd.call223 Tryd.func223 rfl Tryd.ntmps223 rfl ?_
  refine rgD 9 (.keep .nil) mixed ?_
  refine dT 0 rfl rfl rfl (by kernel_rfl) (fun _ _ _ h => h) (y_fa0 F26_4 rfl) (.keep .nil) (Fz.le.refl _) ?_
  refine dT 1 rfl rfl rfl (by kernel_rfl) (fun _ _ _ h => h) (y_ld (Says.own .head) Tryd.isAgg24 rfl (Nat.zero_add _).symm rfl) (.keep .nil) (Fz.le.refl _) ?_
  refine dT 2 rfl rfl rfl (by kernel_rfl) (fun _ _ _ h => h) (y_mv rfl) (.keep .nil) (Fz.le.refl _) ?_
  refine dT 3 rfl rfl rfl (by kernel_rfl) (fun _ _ _ h => h) (y_mv rfl) (.keep .nil) (Fz.le.refl _) ?_
  refine dE 4 (by kernel_rfl) rfl ?_
  have hbd9 : x.length ≤ 1000000000000 := hxl
  refine apn (news := bytesOf x) Tryd.underlying22 I5 rfl rfl (src_bytes Tryd.underlying22 hx rfl) (by omega) (by unfold maxLen; omega) rfl (fun a9 c9 N9 r9 => ?_)
  refine frL r9 .head (fun H2 hle2 hz => ?_)
  have hbq := BytesAt.row hz r9 (by unfold B47; omega)
  refine dN (.keep .nil) hle2 ?_
  refine dT 5 rfl rfl rfl (by kernel_rfl) (fun _ _ _ h => h) (y_bd S61 rfl rfl) (.keep .nil) hle2 ?_
  refine dE 6 (by kernel_rfl) rfl ?_
  refine bs' L24 rfl rfl rfl rfl (fun b_1 => ?_)
  refine dN (.skip (.keep .nil)) hle2 ?_
  refine dE 7 (by kernel_rfl) rfl ?_
  refine ap (k := 1) (news := gcf ((⟨a9, c9⟩ : GC), (k, x))) Tryd.underlying24 I61 rfl rfl hr (fun _ => (.tail (.tail .head))) (src_says Tryd.underlying24 rfl (fun _ => Says.own .head) (gcf_one _)) (by omega) (by unfold maxLen; omega) rfl (fun a12 c12 N12 r12 z12 => ?_)
  refine dN (.skip (.keep .nil)) hle2 ?_
  refine dT 8 rfl rfl rfl (by kernel_rfl) (fun _ _ _ h => h) (y_fa0 F26_4 rfl) (.skip (.keep .nil)) hle2 ?_
  refine dE 9 (by kernel_rfl) rfl ?_
  refine st Tryd.sizeOf24 rfl rfl rfl rfl (.tail .head) ?_
  refine dNk (by kernel_rfl) ?_
  refine dD (by kernel_rfl) ?_
  refine drN .head ?_
  exact fun _ _ hA hw => rn rfl hle2 ⟨_, _, _, ⟨a9, c9⟩, rfl, r12, ⟨hbq, h0, h1⟩⟩ hA hw
theorem tc_229 {H : Fz} {L : Own} {tb : Nat} {c0 c1 c2 c3 : Value} {a va : Option Addr} {m cap vc : Nat} {xs : List Value} {k : Int} {x : List UInt8} {N : Chunk} (hr : Row 61 2 a m cap xs N) (hm : m ≤ 1000000) (hx : BytesAt H va vc x) (hxl : x.length ≤ 1000000000000) (h0 : 0 ≤ k) (h1 : k < 4294967296) :
    Fn Tryd.prog 229 [.int .u32 k, .slice va x.length vc, .pointer (some ⟨tb, 0, none⟩)] H ([(tb, .cells [c0, c1, c2, c3, .slice a m cap].toArray 26 (0, 0))] :: N :: L) (fun _ H' L' => ∃ a' cap' N' g, L' = [(tb, .cells [c0, c1, c2, c3, .slice a' (m + 1) cap'].toArray 26 (0, 0))] :: N' :: L ∧ Row 61 2 a' (m + 1) cap' (xs ++ gcf (g, (k, x))) N' ∧ TagAt H' g (k, x)) := by
  refine Fn.mk Tryd.call229 Tryd.func229 rfl Tryd.ntmps229 rfl ?_
  refine rgD 9 (.keep .nil) mixed ?_
  refine dT 0 rfl rfl rfl (by kernel_rfl) (fun _ _ _ h => h) (y_fa0 F26_4 rfl) (.keep .nil) (Fz.le.refl _) ?_
  refine dT 1 rfl rfl rfl (by kernel_rfl) (fun _ _ _ h => h) (y_ld (Says.own .head) Tryd.isAgg24 rfl (Nat.zero_add _).symm rfl) (.keep .nil) (Fz.le.refl _) ?_
  refine dT 2 rfl rfl rfl (by kernel_rfl) (fun _ _ _ h => h) (y_mv rfl) (.keep .nil) (Fz.le.refl _) ?_
  refine dT 3 rfl rfl rfl (by kernel_rfl) (fun _ _ _ h => h) (y_mv rfl) (.keep .nil) (Fz.le.refl _) ?_
  refine dE 4 (by kernel_rfl) rfl ?_
  have hbd9 : x.length ≤ 1000000000000 := hxl
  refine apn (news := bytesOf x) Tryd.underlying22 I5 rfl rfl (src_bytes Tryd.underlying22 hx rfl) (by omega) (by unfold maxLen; omega) rfl (fun a9 c9 N9 r9 => ?_)
  refine frL r9 .head (fun H2 hle2 hz => ?_)
  have hbq := BytesAt.row hz r9 (by unfold B47; omega)
  refine dN (.keep .nil) hle2 ?_
  refine dT 5 rfl rfl rfl (by kernel_rfl) (fun _ _ _ h => h) (y_bd S61 rfl rfl) (.keep .nil) hle2 ?_
  refine dE 6 (by kernel_rfl) rfl ?_
  refine bs' L24 rfl rfl rfl rfl (fun b_1 => ?_)
  refine dN (.skip (.keep .nil)) hle2 ?_
  refine dE 7 (by kernel_rfl) rfl ?_
  refine ap (k := 1) (news := gcf ((⟨a9, c9⟩ : GC), (k, x))) Tryd.underlying24 I61 rfl rfl hr (fun _ => (.tail (.tail .head))) (src_says Tryd.underlying24 rfl (fun _ => Says.own .head) (gcf_one _)) (by omega) (by unfold maxLen; omega) rfl (fun a12 c12 N12 r12 z12 => ?_)
  refine dN (.skip (.keep .nil)) hle2 ?_
  refine dT 8 rfl rfl rfl (by kernel_rfl) (fun _ _ _ h => h) (y_fa0 F26_4 rfl) (.skip (.keep .nil)) hle2 ?_
  refine dE 9 (by kernel_rfl) rfl ?_
  refine st Tryd.sizeOf24 rfl rfl rfl rfl (.tail .head) ?_
  refine dNk (by kernel_rfl) ?_
  refine dD (by kernel_rfl) ?_
  refine drN .head ?_
  exact fun _ _ hA hw => rn rfl hle2 ⟨_, _, _, ⟨a9, c9⟩, rfl, r12, ⟨hbq, h0, h1⟩⟩ hA hw
theorem tc_230 {H : Fz} {L : Own} {tb : Nat} {c0 c1 c2 c3 : Value} {a va : Option Addr} {m cap vc : Nat} {xs : List Value} {k : Int} {x : List UInt8} {N : Chunk} (hr : Row 61 2 a m cap xs N) (hm : m ≤ 1000000) (hx : BytesAt H va vc x) (hxl : x.length ≤ 1000000000000) (h0 : 0 ≤ k) (h1 : k < 4294967296) :
    Fn Tryd.prog 230 [.int .u32 k, .slice va x.length vc, .pointer (some ⟨tb, 0, none⟩)] H ([(tb, .cells [c0, c1, c2, c3, .slice a m cap].toArray 26 (0, 0))] :: N :: L) (fun _ H' L' => ∃ a' cap' N' g, L' = [(tb, .cells [c0, c1, c2, c3, .slice a' (m + 1) cap'].toArray 26 (0, 0))] :: N' :: L ∧ Row 61 2 a' (m + 1) cap' (xs ++ gcf (g, (k, x))) N' ∧ TagAt H' g (k, x)) := by
  refine Fn.mk Tryd.call230 Tryd.func230 rfl Tryd.ntmps230 rfl ?_
  refine rgD 9 (.keep .nil) mixed ?_
  refine dT 0 rfl rfl rfl (by kernel_rfl) (fun _ _ _ h => h) (y_fa0 F26_4 rfl) (.keep .nil) (Fz.le.refl _) ?_
  refine dT 1 rfl rfl rfl (by kernel_rfl) (fun _ _ _ h => h) (y_ld (Says.own .head) Tryd.isAgg24 rfl (Nat.zero_add _).symm rfl) (.keep .nil) (Fz.le.refl _) ?_
  refine dT 2 rfl rfl rfl (by kernel_rfl) (fun _ _ _ h => h) (y_mv rfl) (.keep .nil) (Fz.le.refl _) ?_
  refine dT 3 rfl rfl rfl (by kernel_rfl) (fun _ _ _ h => h) (y_mv rfl) (.keep .nil) (Fz.le.refl _) ?_
  refine dE 4 (by kernel_rfl) rfl ?_
  have hbd9 : x.length ≤ 1000000000000 := hxl
  refine apn (news := bytesOf x) Tryd.underlying22 I5 rfl rfl (src_bytes Tryd.underlying22 hx rfl) (by omega) (by unfold maxLen; omega) rfl (fun a9 c9 N9 r9 => ?_)
  refine frL r9 .head (fun H2 hle2 hz => ?_)
  have hbq := BytesAt.row hz r9 (by unfold B47; omega)
  refine dN (.keep .nil) hle2 ?_
  refine dT 5 rfl rfl rfl (by kernel_rfl) (fun _ _ _ h => h) (y_bd S61 rfl rfl) (.keep .nil) hle2 ?_
  refine dE 6 (by kernel_rfl) rfl ?_
  refine bs' L24 rfl rfl rfl rfl (fun b_1 => ?_)
  refine dN (.skip (.keep .nil)) hle2 ?_
  refine dE 7 (by kernel_rfl) rfl ?_
  refine ap (k := 1) (news := gcf ((⟨a9, c9⟩ : GC), (k, x))) Tryd.underlying24 I61 rfl rfl hr (fun _ => (.tail (.tail .head))) (src_says Tryd.underlying24 rfl (fun _ => Says.own .head) (gcf_one _)) (by omega) (by unfold maxLen; omega) rfl (fun a12 c12 N12 r12 z12 => ?_)
  refine dN (.skip (.keep .nil)) hle2 ?_
  refine dT 8 rfl rfl rfl (by kernel_rfl) (fun _ _ _ h => h) (y_fa0 F26_4 rfl) (.skip (.keep .nil)) hle2 ?_
  refine dE 9 (by kernel_rfl) rfl ?_
  refine st Tryd.sizeOf24 rfl rfl rfl rfl (.tail .head) ?_
  refine dNk (by kernel_rfl) ?_
  refine dD (by kernel_rfl) ?_
  refine drN .head ?_
  exact fun _ _ hA hw => rn rfl hle2 ⟨_, _, _, ⟨a9, c9⟩, rfl, r12, ⟨hbq, h0, h1⟩⟩ hA hw
theorem tc_248 {H : Fz} {L : Own} {tb : Nat} {c0 c1 c2 c3 : Value} {a va : Option Addr} {m cap vc : Nat} {xs : List Value} {k : Int} {x : List UInt8} {N : Chunk} (hr : Row 61 2 a m cap xs N) (hm : m ≤ 1000000) (hx : BytesAt H va vc x) (hxl : x.length ≤ 1000000000000) (h0 : 0 ≤ k) (h1 : k < 4294967296) :
    Fn Tryd.prog 248 [.int .u32 k, .slice va x.length vc, .pointer (some ⟨tb, 0, none⟩)] H ([(tb, .cells [c0, c1, c2, c3, .slice a m cap].toArray 26 (0, 0))] :: N :: L) (fun _ H' L' => ∃ a' cap' N' g, L' = [(tb, .cells [c0, c1, c2, c3, .slice a' (m + 1) cap'].toArray 26 (0, 0))] :: N' :: L ∧ Row 61 2 a' (m + 1) cap' (xs ++ gcf (g, (k, x))) N' ∧ TagAt H' g (k, x)) := by
  refine Fn.mk Tryd.call248 Tryd.func248 rfl Tryd.ntmps248 rfl ?_
  refine rgD 9 (.keep .nil) mixed ?_
  refine dT 0 rfl rfl rfl (by kernel_rfl) (fun _ _ _ h => h) (y_fa0 F26_4 rfl) (.keep .nil) (Fz.le.refl _) ?_
  refine dT 1 rfl rfl rfl (by kernel_rfl) (fun _ _ _ h => h) (y_ld (Says.own .head) Tryd.isAgg24 rfl (Nat.zero_add _).symm rfl) (.keep .nil) (Fz.le.refl _) ?_
  refine dT 2 rfl rfl rfl (by kernel_rfl) (fun _ _ _ h => h) (y_mv rfl) (.keep .nil) (Fz.le.refl _) ?_
  refine dT 3 rfl rfl rfl (by kernel_rfl) (fun _ _ _ h => h) (y_mv rfl) (.keep .nil) (Fz.le.refl _) ?_
  refine dE 4 (by kernel_rfl) rfl ?_
  have hbd9 : x.length ≤ 1000000000000 := hxl
  refine apn (news := bytesOf x) Tryd.underlying22 I5 rfl rfl (src_bytes Tryd.underlying22 hx rfl) (by omega) (by unfold maxLen; omega) rfl (fun a9 c9 N9 r9 => ?_)
  refine frL r9 .head (fun H2 hle2 hz => ?_)
  have hbq := BytesAt.row hz r9 (by unfold B47; omega)
  refine dN (.keep .nil) hle2 ?_
  refine dT 5 rfl rfl rfl (by kernel_rfl) (fun _ _ _ h => h) (y_bd S61 rfl rfl) (.keep .nil) hle2 ?_
  refine dE 6 (by kernel_rfl) rfl ?_
  refine bs' L24 rfl rfl rfl rfl (fun b_1 => ?_)
  refine dN (.skip (.keep .nil)) hle2 ?_
  refine dE 7 (by kernel_rfl) rfl ?_
  refine ap (k := 1) (news := gcf ((⟨a9, c9⟩ : GC), (k, x))) Tryd.underlying24 I61 rfl rfl hr (fun _ => (.tail (.tail .head))) (src_says Tryd.underlying24 rfl (fun _ => Says.own .head) (gcf_one _)) (by omega) (by unfold maxLen; omega) rfl (fun a12 c12 N12 r12 z12 => ?_)
  refine dN (.skip (.keep .nil)) hle2 ?_
  refine dT 8 rfl rfl rfl (by kernel_rfl) (fun _ _ _ h => h) (y_fa0 F26_4 rfl) (.skip (.keep .nil)) hle2 ?_
  refine dE 9 (by kernel_rfl) rfl ?_
  refine st Tryd.sizeOf24 rfl rfl rfl rfl (.tail .head) ?_
  refine dNk (by kernel_rfl) ?_
  refine dD (by kernel_rfl) ?_
  refine drN .head ?_
  exact fun _ _ hA hw => rn rfl hle2 ⟨_, _, _, ⟨a9, c9⟩, rfl, r12, ⟨hbq, h0, h1⟩⟩ hA hw
theorem tc_249 {H : Fz} {L : Own} {tb : Nat} {c0 c1 c2 c3 : Value} {a va : Option Addr} {m cap vc : Nat} {xs : List Value} {k : Int} {x : List UInt8} {N : Chunk} (hr : Row 61 2 a m cap xs N) (hm : m ≤ 1000000) (hx : BytesAt H va vc x) (hxl : x.length ≤ 1000000000000) (h0 : 0 ≤ k) (h1 : k < 4294967296) :
    Fn Tryd.prog 249 [.int .u32 k, .slice va x.length vc, .pointer (some ⟨tb, 0, none⟩)] H ([(tb, .cells [c0, c1, c2, c3, .slice a m cap].toArray 26 (0, 0))] :: N :: L) (fun _ H' L' => ∃ a' cap' N' g, L' = [(tb, .cells [c0, c1, c2, c3, .slice a' (m + 1) cap'].toArray 26 (0, 0))] :: N' :: L ∧ Row 61 2 a' (m + 1) cap' (xs ++ gcf (g, (k, x))) N' ∧ TagAt H' g (k, x)) := by
  refine Fn.mk Tryd.call249 Tryd.func249 rfl Tryd.ntmps249 rfl ?_
  refine rgD 9 (.keep .nil) mixed ?_
  refine dT 0 rfl rfl rfl (by kernel_rfl) (fun _ _ _ h => h) (y_fa0 F26_4 rfl) (.keep .nil) (Fz.le.refl _) ?_
  refine dT 1 rfl rfl rfl (by kernel_rfl) (fun _ _ _ h => h) (y_ld (Says.own .head) Tryd.isAgg24 rfl (Nat.zero_add _).symm rfl) (.keep .nil) (Fz.le.refl _) ?_
  refine dT 2 rfl rfl rfl (by kernel_rfl) (fun _ _ _ h => h) (y_mv rfl) (.keep .nil) (Fz.le.refl _) ?_
  refine dT 3 rfl rfl rfl (by kernel_rfl) (fun _ _ _ h => h) (y_mv rfl) (.keep .nil) (Fz.le.refl _) ?_
  refine dE 4 (by kernel_rfl) rfl ?_
  have hbd9 : x.length ≤ 1000000000000 := hxl
  refine apn (news := bytesOf x) Tryd.underlying22 I5 rfl rfl (src_bytes Tryd.underlying22 hx rfl) (by omega) (by unfold maxLen; omega) rfl (fun a9 c9 N9 r9 => ?_)
  refine frL r9 .head (fun H2 hle2 hz => ?_)
  have hbq := BytesAt.row hz r9 (by unfold B47; omega)
  refine dN (.keep .nil) hle2 ?_
  refine dT 5 rfl rfl rfl (by kernel_rfl) (fun _ _ _ h => h) (y_bd S61 rfl rfl) (.keep .nil) hle2 ?_
  refine dE 6 (by kernel_rfl) rfl ?_
  refine bs' L24 rfl rfl rfl rfl (fun b_1 => ?_)
  refine dN (.skip (.keep .nil)) hle2 ?_
  refine dE 7 (by kernel_rfl) rfl ?_
  refine ap (k := 1) (news := gcf ((⟨a9, c9⟩ : GC), (k, x))) Tryd.underlying24 I61 rfl rfl hr (fun _ => (.tail (.tail .head))) (src_says Tryd.underlying24 rfl (fun _ => Says.own .head) (gcf_one _)) (by omega) (by unfold maxLen; omega) rfl (fun a12 c12 N12 r12 z12 => ?_)
  refine dN (.skip (.keep .nil)) hle2 ?_
  refine dT 8 rfl rfl rfl (by kernel_rfl) (fun _ _ _ h => h) (y_fa0 F26_4 rfl) (.skip (.keep .nil)) hle2 ?_
  refine dE 9 (by kernel_rfl) rfl ?_
  refine st Tryd.sizeOf24 rfl rfl rfl rfl (.tail .head) ?_
  refine dNk (by kernel_rfl) ?_
  refine dD (by kernel_rfl) ?_
  refine drN .head ?_
  exact fun _ _ hA hw => rn rfl hle2 ⟨_, _, _, ⟨a9, c9⟩, rfl, r12, ⟨hbq, h0, h1⟩⟩ hA hw
theorem tc_250 {H : Fz} {L : Own} {tb : Nat} {c0 c1 c2 c3 : Value} {a va : Option Addr} {m cap vc : Nat} {xs : List Value} {k : Int} {x : List UInt8} {N : Chunk} (hr : Row 61 2 a m cap xs N) (hm : m ≤ 1000000) (hx : BytesAt H va vc x) (hxl : x.length ≤ 1000000000000) (h0 : 0 ≤ k) (h1 : k < 4294967296) :
    Fn Tryd.prog 250 [.int .u32 k, .slice va x.length vc, .pointer (some ⟨tb, 0, none⟩)] H ([(tb, .cells [c0, c1, c2, c3, .slice a m cap].toArray 26 (0, 0))] :: N :: L) (fun _ H' L' => ∃ a' cap' N' g, L' = [(tb, .cells [c0, c1, c2, c3, .slice a' (m + 1) cap'].toArray 26 (0, 0))] :: N' :: L ∧ Row 61 2 a' (m + 1) cap' (xs ++ gcf (g, (k, x))) N' ∧ TagAt H' g (k, x)) := by
  refine Fn.mk Tryd.call250 Tryd.func250 rfl Tryd.ntmps250 rfl ?_
  refine rgD 9 (.keep .nil) mixed ?_
  refine dT 0 rfl rfl rfl (by kernel_rfl) (fun _ _ _ h => h) (y_fa0 F26_4 rfl) (.keep .nil) (Fz.le.refl _) ?_
  refine dT 1 rfl rfl rfl (by kernel_rfl) (fun _ _ _ h => h) (y_ld (Says.own .head) Tryd.isAgg24 rfl (Nat.zero_add _).symm rfl) (.keep .nil) (Fz.le.refl _) ?_
  refine dT 2 rfl rfl rfl (by kernel_rfl) (fun _ _ _ h => h) (y_mv rfl) (.keep .nil) (Fz.le.refl _) ?_
  refine dT 3 rfl rfl rfl (by kernel_rfl) (fun _ _ _ h => h) (y_mv rfl) (.keep .nil) (Fz.le.refl _) ?_
  refine dE 4 (by kernel_rfl) rfl ?_
  have hbd9 : x.length ≤ 1000000000000 := hxl
  refine apn (news := bytesOf x) Tryd.underlying22 I5 rfl rfl (src_bytes Tryd.underlying22 hx rfl) (by omega) (by unfold maxLen; omega) rfl (fun a9 c9 N9 r9 => ?_)
  refine frL r9 .head (fun H2 hle2 hz => ?_)
  have hbq := BytesAt.row hz r9 (by unfold B47; omega)
  refine dN (.keep .nil) hle2 ?_
  refine dT 5 rfl rfl rfl (by kernel_rfl) (fun _ _ _ h => h) (y_bd S61 rfl rfl) (.keep .nil) hle2 ?_
  refine dE 6 (by kernel_rfl) rfl ?_
  refine bs' L24 rfl rfl rfl rfl (fun b_1 => ?_)
  refine dN (.skip (.keep .nil)) hle2 ?_
  refine dE 7 (by kernel_rfl) rfl ?_
  refine ap (k := 1) (news := gcf ((⟨a9, c9⟩ : GC), (k, x))) Tryd.underlying24 I61 rfl rfl hr (fun _ => (.tail (.tail .head))) (src_says Tryd.underlying24 rfl (fun _ => Says.own .head) (gcf_one _)) (by omega) (by unfold maxLen; omega) rfl (fun a12 c12 N12 r12 z12 => ?_)
  refine dN (.skip (.keep .nil)) hle2 ?_
  refine dT 8 rfl rfl rfl (by kernel_rfl) (fun _ _ _ h => h) (y_fa0 F26_4 rfl) (.skip (.keep .nil)) hle2 ?_
  refine dE 9 (by kernel_rfl) rfl ?_
  refine st Tryd.sizeOf24 rfl rfl rfl rfl (.tail .head) ?_
  refine dNk (by kernel_rfl) ?_
  refine dD (by kernel_rfl) ?_
  refine drN .head ?_
  exact fun _ _ hA hw => rn rfl hle2 ⟨_, _, _, ⟨a9, c9⟩, rfl, r12, ⟨hbq, h0, h1⟩⟩ hA hw
theorem tc_251 {H : Fz} {L : Own} {tb : Nat} {c0 c1 c2 c3 : Value} {a va : Option Addr} {m cap vc : Nat} {xs : List Value} {k : Int} {x : List UInt8} {N : Chunk} (hr : Row 61 2 a m cap xs N) (hm : m ≤ 1000000) (hx : BytesAt H va vc x) (hxl : x.length ≤ 1000000000000) (h0 : 0 ≤ k) (h1 : k < 4294967296) :
    Fn Tryd.prog 251 [.int .u32 k, .slice va x.length vc, .pointer (some ⟨tb, 0, none⟩)] H ([(tb, .cells [c0, c1, c2, c3, .slice a m cap].toArray 26 (0, 0))] :: N :: L) (fun _ H' L' => ∃ a' cap' N' g, L' = [(tb, .cells [c0, c1, c2, c3, .slice a' (m + 1) cap'].toArray 26 (0, 0))] :: N' :: L ∧ Row 61 2 a' (m + 1) cap' (xs ++ gcf (g, (k, x))) N' ∧ TagAt H' g (k, x)) := by
  refine Fn.mk Tryd.call251 Tryd.func251 rfl Tryd.ntmps251 rfl ?_
  refine rgD 9 (.keep .nil) mixed ?_
  refine dT 0 rfl rfl rfl (by kernel_rfl) (fun _ _ _ h => h) (y_fa0 F26_4 rfl) (.keep .nil) (Fz.le.refl _) ?_
  refine dT 1 rfl rfl rfl (by kernel_rfl) (fun _ _ _ h => h) (y_ld (Says.own .head) Tryd.isAgg24 rfl (Nat.zero_add _).symm rfl) (.keep .nil) (Fz.le.refl _) ?_
  refine dT 2 rfl rfl rfl (by kernel_rfl) (fun _ _ _ h => h) (y_mv rfl) (.keep .nil) (Fz.le.refl _) ?_
  refine dT 3 rfl rfl rfl (by kernel_rfl) (fun _ _ _ h => h) (y_mv rfl) (.keep .nil) (Fz.le.refl _) ?_
  refine dE 4 (by kernel_rfl) rfl ?_
  have hbd9 : x.length ≤ 1000000000000 := hxl
  refine apn (news := bytesOf x) Tryd.underlying22 I5 rfl rfl (src_bytes Tryd.underlying22 hx rfl) (by omega) (by unfold maxLen; omega) rfl (fun a9 c9 N9 r9 => ?_)
  refine frL r9 .head (fun H2 hle2 hz => ?_)
  have hbq := BytesAt.row hz r9 (by unfold B47; omega)
  refine dN (.keep .nil) hle2 ?_
  refine dT 5 rfl rfl rfl (by kernel_rfl) (fun _ _ _ h => h) (y_bd S61 rfl rfl) (.keep .nil) hle2 ?_
  refine dE 6 (by kernel_rfl) rfl ?_
  refine bs' L24 rfl rfl rfl rfl (fun b_1 => ?_)
  refine dN (.skip (.keep .nil)) hle2 ?_
  refine dE 7 (by kernel_rfl) rfl ?_
  refine ap (k := 1) (news := gcf ((⟨a9, c9⟩ : GC), (k, x))) Tryd.underlying24 I61 rfl rfl hr (fun _ => (.tail (.tail .head))) (src_says Tryd.underlying24 rfl (fun _ => Says.own .head) (gcf_one _)) (by omega) (by unfold maxLen; omega) rfl (fun a12 c12 N12 r12 z12 => ?_)
  refine dN (.skip (.keep .nil)) hle2 ?_
  refine dT 8 rfl rfl rfl (by kernel_rfl) (fun _ _ _ h => h) (y_fa0 F26_4 rfl) (.skip (.keep .nil)) hle2 ?_
  refine dE 9 (by kernel_rfl) rfl ?_
  refine st Tryd.sizeOf24 rfl rfl rfl rfl (.tail .head) ?_
  refine dNk (by kernel_rfl) ?_
  refine dD (by kernel_rfl) ?_
  refine drN .head ?_
  exact fun _ _ hA hw => rn rfl hle2 ⟨_, _, _, ⟨a9, c9⟩, rfl, r12, ⟨hbq, h0, h1⟩⟩ hA hw
theorem tc_252 {H : Fz} {L : Own} {tb : Nat} {c0 c1 c2 c3 : Value} {a va : Option Addr} {m cap vc : Nat} {xs : List Value} {k : Int} {x : List UInt8} {N : Chunk} (hr : Row 61 2 a m cap xs N) (hm : m ≤ 1000000) (hx : BytesAt H va vc x) (hxl : x.length ≤ 1000000000000) (h0 : 0 ≤ k) (h1 : k < 4294967296) :
    Fn Tryd.prog 252 [.int .u32 k, .slice va x.length vc, .pointer (some ⟨tb, 0, none⟩)] H ([(tb, .cells [c0, c1, c2, c3, .slice a m cap].toArray 26 (0, 0))] :: N :: L) (fun _ H' L' => ∃ a' cap' N' g, L' = [(tb, .cells [c0, c1, c2, c3, .slice a' (m + 1) cap'].toArray 26 (0, 0))] :: N' :: L ∧ Row 61 2 a' (m + 1) cap' (xs ++ gcf (g, (k, x))) N' ∧ TagAt H' g (k, x)) := by
  refine Fn.mk Tryd.call252 Tryd.func252 rfl Tryd.ntmps252 rfl ?_
  refine rgD 9 (.keep .nil) mixed ?_
  refine dT 0 rfl rfl rfl (by kernel_rfl) (fun _ _ _ h => h) (y_fa0 F26_4 rfl) (.keep .nil) (Fz.le.refl _) ?_
  refine dT 1 rfl rfl rfl (by kernel_rfl) (fun _ _ _ h => h) (y_ld (Says.own .head) Tryd.isAgg24 rfl (Nat.zero_add _).symm rfl) (.keep .nil) (Fz.le.refl _) ?_
  refine dT 2 rfl rfl rfl (by kernel_rfl) (fun _ _ _ h => h) (y_mv rfl) (.keep .nil) (Fz.le.refl _) ?_
  refine dT 3 rfl rfl rfl (by kernel_rfl) (fun _ _ _ h => h) (y_mv rfl) (.keep .nil) (Fz.le.refl _) ?_
  refine dE 4 (by kernel_rfl) rfl ?_
  have hbd9 : x.length ≤ 1000000000000 := hxl
  refine apn (news := bytesOf x) Tryd.underlying22 I5 rfl rfl (src_bytes Tryd.underlying22 hx rfl) (by omega) (by unfold maxLen; omega) rfl (fun a9 c9 N9 r9 => ?_)
  refine frL r9 .head (fun H2 hle2 hz => ?_)
  have hbq := BytesAt.row hz r9 (by unfold B47; omega)
  refine dN (.keep .nil) hle2 ?_
  refine dT 5 rfl rfl rfl (by kernel_rfl) (fun _ _ _ h => h) (y_bd S61 rfl rfl) (.keep .nil) hle2 ?_
  refine dE 6 (by kernel_rfl) rfl ?_
  refine bs' L24 rfl rfl rfl rfl (fun b_1 => ?_)
  refine dN (.skip (.keep .nil)) hle2 ?_
  refine dE 7 (by kernel_rfl) rfl ?_
  refine ap (k := 1) (news := gcf ((⟨a9, c9⟩ : GC), (k, x))) Tryd.underlying24 I61 rfl rfl hr (fun _ => (.tail (.tail .head))) (src_says Tryd.underlying24 rfl (fun _ => Says.own .head) (gcf_one _)) (by omega) (by unfold maxLen; omega) rfl (fun a12 c12 N12 r12 z12 => ?_)
  refine dN (.skip (.keep .nil)) hle2 ?_
  refine dT 8 rfl rfl rfl (by kernel_rfl) (fun _ _ _ h => h) (y_fa0 F26_4 rfl) (.skip (.keep .nil)) hle2 ?_
  refine dE 9 (by kernel_rfl) rfl ?_
  refine st Tryd.sizeOf24 rfl rfl rfl rfl (.tail .head) ?_
  refine dNk (by kernel_rfl) ?_
  refine dD (by kernel_rfl) ?_
  refine drN .head ?_
  exact fun _ _ hA hw => rn rfl hle2 ⟨_, _, _, ⟨a9, c9⟩, rfl, r12, ⟨hbq, h0, h1⟩⟩ hA hw
theorem tc_254 {H : Fz} {L : Own} {tb : Nat} {c0 c1 c2 c3 : Value} {a va : Option Addr} {m cap vc : Nat} {xs : List Value} {k : Int} {x : List UInt8} {N : Chunk} (hr : Row 61 2 a m cap xs N) (hm : m ≤ 1000000) (hx : BytesAt H va vc x) (hxl : x.length ≤ 1000000000000) (h0 : 0 ≤ k) (h1 : k < 4294967296) :
    Fn Tryd.prog 254 [.int .u32 k, .slice va x.length vc, .pointer (some ⟨tb, 0, none⟩)] H ([(tb, .cells [c0, c1, c2, c3, .slice a m cap].toArray 26 (0, 0))] :: N :: L) (fun _ H' L' => ∃ a' cap' N' g, L' = [(tb, .cells [c0, c1, c2, c3, .slice a' (m + 1) cap'].toArray 26 (0, 0))] :: N' :: L ∧ Row 61 2 a' (m + 1) cap' (xs ++ gcf (g, (k, x))) N' ∧ TagAt H' g (k, x)) := by
  refine Fn.mk Tryd.call254 Tryd.func254 rfl Tryd.ntmps254 rfl ?_
  refine rgD 9 (.keep .nil) mixed ?_
  refine dT 0 rfl rfl rfl (by kernel_rfl) (fun _ _ _ h => h) (y_fa0 F26_4 rfl) (.keep .nil) (Fz.le.refl _) ?_
  refine dT 1 rfl rfl rfl (by kernel_rfl) (fun _ _ _ h => h) (y_ld (Says.own .head) Tryd.isAgg24 rfl (Nat.zero_add _).symm rfl) (.keep .nil) (Fz.le.refl _) ?_
  refine dT 2 rfl rfl rfl (by kernel_rfl) (fun _ _ _ h => h) (y_mv rfl) (.keep .nil) (Fz.le.refl _) ?_
  refine dT 3 rfl rfl rfl (by kernel_rfl) (fun _ _ _ h => h) (y_mv rfl) (.keep .nil) (Fz.le.refl _) ?_
  refine dE 4 (by kernel_rfl) rfl ?_
  have hbd9 : x.length ≤ 1000000000000 := hxl
  refine apn (news := bytesOf x) Tryd.underlying22 I5 rfl rfl (src_bytes Tryd.underlying22 hx rfl) (by omega) (by unfold maxLen; omega) rfl (fun a9 c9 N9 r9 => ?_)
  refine frL r9 .head (fun H2 hle2 hz => ?_)
  have hbq := BytesAt.row hz r9 (by unfold B47; omega)
  refine dN (.keep .nil) hle2 ?_
  refine dT 5 rfl rfl rfl (by kernel_rfl) (fun _ _ _ h => h) (y_bd S61 rfl rfl) (.keep .nil) hle2 ?_
  refine dE 6 (by kernel_rfl) rfl ?_
  refine bs' L24 rfl rfl rfl rfl (fun b_1 => ?_)
  refine dN (.skip (.keep .nil)) hle2 ?_
  refine dE 7 (by kernel_rfl) rfl ?_
  refine ap (k := 1) (news := gcf ((⟨a9, c9⟩ : GC), (k, x))) Tryd.underlying24 I61 rfl rfl hr (fun _ => (.tail (.tail .head))) (src_says Tryd.underlying24 rfl (fun _ => Says.own .head) (gcf_one _)) (by omega) (by unfold maxLen; omega) rfl (fun a12 c12 N12 r12 z12 => ?_)
  refine dN (.skip (.keep .nil)) hle2 ?_
  refine dT 8 rfl rfl rfl (by kernel_rfl) (fun _ _ _ h => h) (y_fa0 F26_4 rfl) (.skip (.keep .nil)) hle2 ?_
  refine dE 9 (by kernel_rfl) rfl ?_
  refine st Tryd.sizeOf24 rfl rfl rfl rfl (.tail .head) ?_
  refine dNk (by kernel_rfl) ?_
  refine dD (by kernel_rfl) ?_
  refine drN .head ?_
  exact fun _ _ hA hw => rn rfl hle2 ⟨_, _, _, ⟨a9, c9⟩, rfl, r12, ⟨hbq, h0, h1⟩⟩ hA hw
theorem tc_276 {H : Fz} {L : Own} {tb : Nat} {c0 c1 c2 c3 : Value} {a va : Option Addr} {m cap vc : Nat} {xs : List Value} {k : Int} {x : List UInt8} {N : Chunk} (hr : Row 61 2 a m cap xs N) (hm : m ≤ 1000000) (hx : BytesAt H va vc x) (hxl : x.length ≤ 1000000000000) (h0 : 0 ≤ k) (h1 : k < 4294967296) :
    Fn Tryd.prog 276 [.int .u32 k, .slice va x.length vc, .pointer (some ⟨tb, 0, none⟩)] H ([(tb, .cells [c0, c1, c2, c3, .slice a m cap].toArray 26 (0, 0))] :: N :: L) (fun _ H' L' => ∃ a' cap' N' g, L' = [(tb, .cells [c0, c1, c2, c3, .slice a' (m + 1) cap'].toArray 26 (0, 0))] :: N' :: L ∧ Row 61 2 a' (m + 1) cap' (xs ++ gcf (g, (k, x))) N' ∧ TagAt H' g (k, x)) := by
  refine Fn.mk Tryd.call276 Tryd.func276 rfl Tryd.ntmps276 rfl ?_
  refine rgD 9 (.keep .nil) mixed ?_
  refine dT 0 rfl rfl rfl (by kernel_rfl) (fun _ _ _ h => h) (y_fa0 F26_4 rfl) (.keep .nil) (Fz.le.refl _) ?_
  refine dT 1 rfl rfl rfl (by kernel_rfl) (fun _ _ _ h => h) (y_ld (Says.own .head) Tryd.isAgg24 rfl (Nat.zero_add _).symm rfl) (.keep .nil) (Fz.le.refl _) ?_
  refine dT 2 rfl rfl rfl (by kernel_rfl) (fun _ _ _ h => h) (y_mv rfl) (.keep .nil) (Fz.le.refl _) ?_
  refine dT 3 rfl rfl rfl (by kernel_rfl) (fun _ _ _ h => h) (y_mv rfl) (.keep .nil) (Fz.le.refl _) ?_
  refine dE 4 (by kernel_rfl) rfl ?_
  have hbd9 : x.length ≤ 1000000000000 := hxl
  refine apn (news := bytesOf x) Tryd.underlying22 I5 rfl rfl (src_bytes Tryd.underlying22 hx rfl) (by omega) (by unfold maxLen; omega) rfl (fun a9 c9 N9 r9 => ?_)
  refine frL r9 .head (fun H2 hle2 hz => ?_)
  have hbq := BytesAt.row hz r9 (by unfold B47; omega)
  refine dN (.keep .nil) hle2 ?_
  refine dT 5 rfl rfl rfl (by kernel_rfl) (fun _ _ _ h => h) (y_bd S61 rfl rfl) (.keep .nil) hle2 ?_
  refine dE 6 (by kernel_rfl) rfl ?_
  refine bs' L24 rfl rfl rfl rfl (fun b_1 => ?_)
  refine dN (.skip (.keep .nil)) hle2 ?_
  refine dE 7 (by kernel_rfl) rfl ?_
  refine ap (k := 1) (news := gcf ((⟨a9, c9⟩ : GC), (k, x))) Tryd.underlying24 I61 rfl rfl hr (fun _ => (.tail (.tail .head))) (src_says Tryd.underlying24 rfl (fun _ => Says.own .head) (gcf_one _)) (by omega) (by unfold maxLen; omega) rfl (fun a12 c12 N12 r12 z12 => ?_)
  refine dN (.skip (.keep .nil)) hle2 ?_
  refine dT 8 rfl rfl rfl (by kernel_rfl) (fun _ _ _ h => h) (y_fa0 F26_4 rfl) (.skip (.keep .nil)) hle2 ?_
  refine dE 9 (by kernel_rfl) rfl ?_
  refine st Tryd.sizeOf24 rfl rfl rfl rfl (.tail .head) ?_
  refine dNk (by kernel_rfl) ?_
  refine dD (by kernel_rfl) ?_
  refine drN .head ?_
  exact fun _ _ hA hw => rn rfl hle2 ⟨_, _, _, ⟨a9, c9⟩, rfl, r12, ⟨hbq, h0, h1⟩⟩ hA hw
end Go.Sx

import Derived.Test.YtoncemcnclkpkaaDoorSxTab
import Derived.Test.YtoncemcnclkpkaaDoorRK2
import Derived.Test.YtoncemcnclkpkaaDoorLibI
import Derived.KernelRfl
set_option linter.unusedVariables false
set_option linter.unusedSimpArgs false
set_option maxRecDepth 100000
set_option maxHeartbeats 20000000
namespace Go.Sx
open Go.Proofs
theorem k_boolTree {H : Fz} {L : Own} {p : Bool} :
    Fn Tryd.prog 84 [.bool p] H L (fun v H' L' => H = H' ∧ L = L' ∧ v = .agg (TC.none.cells (.mk (if p then 1 else 0) [] false [] [])).toArray) := by
  refine Fn.mk Tryd.call84 Tryd.func84 rfl Tryd.ntmps84 rfl ?_
  refine sr ?_
  refine al Tryd.zeroValue37 rfl rfl (fun b_1 => ?_)
  refine nl ?_
  refine sq ?_
  refine sr ?_
  refine mv rfl rfl ?_
  refine nl ?_
  refine cb rfl (fun h3 => ?_) (fun h3 => ?_)
  · skip
    refine sr ?_
    refine bd' S37 rfl rfl rfl ?_
    refine sa Tryd.sizeOf37 rfl rfl rfl rfl rfl .head ?_
    refine nl ?_
    exact rC rfl Tryd.isAgg37 Tryd.sizeOf37 rfl .head rfl (Fz.le.refl _) (fun _ _ h => h) ⟨rfl, rfl, by rw [h3]; rfl⟩
  · skip
    refine skt ?_
    refine sr ?_
    refine bd' S37 rfl rfl rfl ?_
    refine sa Tryd.sizeOf37 rfl rfl rfl rfl rfl .head ?_
    refine nl ?_
    exact rC rfl Tryd.isAgg37 Tryd.sizeOf37 rfl .head rfl (Fz.le.refl _) (fun _ _ h => h) ⟨rfl, rfl, by rw [h3]; rfl⟩
theorem k_octetsTree {H : Fz} {L : Own} {a : Option Addr} {c : Nat} {T : Tr} (hT : OctAt H T a c) (hf : Fits T) :
    Fn Tryd.prog 100 [.slice a (sT T).length c] H L (fun v H' L' => L = L' ∧ ∃ c : TC, v = .agg (c.cells (.mk 0 (sT T) T.nul [] [])).toArray ∧ TreeAt H' c (.mk 0 (sT T) T.nul [] [])) := by
  refine Fn.mk Tryd.call100 Tryd.func100 rfl Tryd.ntmps100 rfl ?_
  refine sr ?_
  refine al Tryd.zeroValue37 rfl rfl (fun b_1 => ?_)
  refine nl ?_
  refine sr ?_
  refine mv rfl rfl ?_
  have hbd4 : (sT T).length ≤ 1000000000000 := (by have := hf.sTl; exact this)
  refine apn (news := bytesOf (sT T)) Tryd.underlying22 I5 rfl rfl (src_bytes Tryd.underlying22 hT.val rfl) (by omega) (by unfold maxLen; omega) rfl (fun a4 c4 N4 r4 => ?_)
  refine mv rfl rfl ?_
  refine esn Tryd.underlying22 rfl rfl ?_
  refine bd' S37 rfl rfl rfl ?_
  refine sa Tryd.sizeOf37 rfl rfl rfl rfl rfl (.tail .head) ?_
  refine nl ?_
  refine frW r4 .head (fun H2 hle2 hz => ?_)
  have hbq := BytesAt.row hz r4 (by have := hf.sTl; unfold B47; omega)
  exact rC rfl Tryd.isAgg37 Tryd.sizeOf37 rfl .head rfl hle2 (fun _ _ h => h) ⟨rfl, ⟨a4, c4, none, 0, none, 0⟩, by rw [← hT.nul]; rfl, .of hbq (.nil _) (.nil _)⟩
theorem k_sorted {H : Fz} {L : Own} {a : Option Addr} {c : Nat} {us : List (Int × List UInt8)} (hu : TagsAt H a c us) (hr : (us.map (·.1)).Pairwise (· ≤ ·)) :
    Fn Tryd.prog 87 [.slice a us.length c] H L (fun _ H' L' => H = H' ∧ L = L') := by
  have hul := hu.len
  refine Fn.mk Tryd.call87 Tryd.func87 rfl Tryd.ntmps87 rfl ?_
  refine sr ?_
  refine mv rfl rfl ?_
  refine ls Tryd.runUnderlying35 rfl rfl ?_
  refine mv rfl rfl ?_
  refine nl ?_
  refine fr (us.length) (fun k l' H' L' => [(0, .slice a us.length c), (5, .int .i64 (us.length : Int))] = l' ∧ L = L' ∧ H = H') [(0, .slice a us.length c), (5, .int .i64 (us.length : Int))] (fun k l' H' L' h => ?_) (by omega) rfl (.cons rfl (.cons rfl (.nil _))) ⟨rfl, rfl, rfl⟩ rfl rfl rfl rfl rfl (fun k l' H' L' hk le_1 hI => ?_) (fun l' H' L' le_2 hI => ?_)
  · obtain ⟨rfl, _⟩ := h; exact ⟨rfl, rfl, rfl, rfl⟩
  · skip
    obtain ⟨rfl, rfl, pk0⟩ := hI
    subst pk0
    refine sr ?_
    refine mv rfl rfl ?_
    refine asg rfl rfl ?_
    refine nl ?_
    refine sr ?_
    refine mv rfl rfl ?_
    refine asg rfl rfl ?_
    refine nl ?_
    refine bl (lp 0 (fun i l' H' L' => [(0, .slice a us.length c), (3, .int .i64 (k : Int)), (5, .int .i64 (us.length : Int)), (6, .int .i64 (k : Int))] = l' ∧ H = H' ∧ L = L') [(0, .slice a us.length c), (3, .int .i64 (k : Int)), (5, .int .i64 (us.length : Int)), (6, .int .i64 (k : Int))] (.cons rfl (.cons rfl (.cons rfl (.cons rfl (.nil _))))) ⟨rfl, rfl, rfl⟩ (fun i l' H' L' hi_ le_3 hI => ?_))
    obtain ⟨rfl, rfl, rfl⟩ := hI
    refine sq ?_
    refine sq ?_
    refine rgD 16 .nil mixed ?_
    refine dT 0 rfl rfl rfl (by kernel_rfl) (fun _ _ _ h => h) (y_mv rfl) .nil (Fz.le.refl _) ?_
    refine dT 1 rfl rfl rfl (by kernel_rfl) (fun _ _ _ h => h) (y_gt rfl rfl) .nil (Fz.le.refl _) ?_
    refine dT 2 rfl rfl rfl (by kernel_rfl) (fun _ _ _ h => h) (y_mv rfl) .nil (Fz.le.refl _) ?_
    refine splH (t := 12) rfl (fun h12 => ?_) (fun h12 => ?_)
    · skip
      refine dT 3 rfl rfl rfl (by kernel_rfl) (fun _ _ _ h => h) (y_gr rfl rfl (y_mv rfl)) .nil (Fz.le.refl _) ?_
      refine dT 4 rfl rfl rfl (by kernel_rfl) (fun _ _ _ h => h) (y_gr rfl rfl (y_mv rfl)) .nil (Fz.le.refl _) ?_
      obtain ⟨b_4, o_5, e_6, g_7⟩ := hu.at_ (ne_nil_of_lt hk)
      obtain ⟨c_8, q_9, q_10⟩ := g_7 k hk
      refine dT 5 rfl rfl rfl (by kernel_rfl) (fun _ _ _ h => h) (y_gr rfl rfl (y_ixk (j := k) Tryd.runUnderlying35 Tryd.sizeOf69 rfl e_6 rfl (by omega) hk)) .nil (Fz.le.refl _) ?_
      refine dT 6 rfl rfl rfl (by kernel_rfl) (fun _ _ _ h => h) (y_gr rfl rfl (y_fa F69_0 rfl)) .nil (Fz.le.refl _) ?_
      refine dT 7 rfl rfl rfl (by kernel_rfl) (fun _ _ _ h => h) (y_gr rfl rfl (y_ld (j := 0) (Says.fz q_9) Tryd.isAgg64 rfl (Nat.add_zero _).symm rfl)) .nil (Fz.le.refl _) ?_
      refine dT 8 rfl rfl rfl (by kernel_rfl) (fun _ _ _ h => h) (y_gr rfl rfl (y_mv rfl)) .nil (Fz.le.refl _) ?_
      refine dT 9 rfl rfl rfl (by kernel_rfl) (fun _ _ _ h => h) (y_gr rfl rfl (y_mv rfl)) .nil (Fz.le.refl _) ?_
      have hk1 : k - 1 < us.length := by omega
      refine dT 10 rfl rfl rfl (by kernel_rfl) (fun _ _ _ h => h) (y_gr rfl rfl (y_sb rfl rfl (w64 (by omega) (by omega)))) .nil (Fz.le.refl _) ?_
      obtain ⟨b_11, o_12, e_13, g_14⟩ := hu.at_ (ne_nil_of_lt hk)
      obtain ⟨c_15, q_16, q_17⟩ := g_14 (k - 1) hk1
      refine dT 11 rfl rfl rfl (by kernel_rfl) (fun _ _ _ h => h) (y_gr rfl rfl (y_ixk (j := (k - 1)) Tryd.runUnderlying35 Tryd.sizeOf69 rfl e_13 rfl (by omega) hk1)) .nil (Fz.le.refl _) ?_
      refine dT 12 rfl rfl rfl (by kernel_rfl) (fun _ _ _ h => h) (y_gr rfl rfl (y_fa F69_0 rfl)) .nil (Fz.le.refl _) ?_
      refine dT 13 rfl rfl rfl (by kernel_rfl) (fun _ _ _ h => h) (y_gr rfl rfl (y_ld (j := 0) (Says.fz q_16) Tryd.isAgg64 rfl (Nat.add_zero _).symm rfl)) .nil (Fz.le.refl _) ?_
      refine dT 14 rfl rfl rfl (by kernel_rfl) (fun _ _ _ h => h) (y_gr rfl rfl (y_lt rfl rfl)) .nil (Fz.le.refl _) ?_
      refine dT 15 rfl rfl rfl (by kernel_rfl) (fun _ _ _ h => h) (y_pk rfl rfl rfl) .nil (Fz.le.refl _) ?_
      refine dD (by kernel_rfl) ?_
      refine Nt ?_
      refine cF (by show some (Value.bool (decide _)) = some (.bool false); rw [decide_eq_false (by have := rise_get hr (show k - 1 < k by omega) hk; omega)]) ?_
      refine exX ?_
      refine XT ?_
      refine XT ?_
      refine Xb ?_
      refine Nb ?_
      refine fun a_ w_ hA hw => ⟨_, _, _, hA.sub ?_, le_1, hw, _, rfl, rfl, rfl, rfl⟩
      exact (.cons rfl (.cons rfl (.cons rfl (.nil _))))
    · skip
      refine dT 3 rfl rfl rfl (by kernel_rfl) (fun _ _ _ h => h) (y_gs rfl rfl rfl) .nil (Fz.le.refl _) ?_
      refine dT 4 rfl rfl rfl (by kernel_rfl) (fun _ _ _ h => h) (y_gs rfl rfl rfl) .nil (Fz.le.refl _) ?_
      refine dT 5 rfl rfl rfl (by kernel_rfl) (fun _ _ _ h => h) (y_gs rfl rfl rfl) .nil (Fz.le.refl _) ?_
      refine dT 6 rfl rfl rfl (by kernel_rfl) (fun _ _ _ h => h) (y_gs rfl rfl rfl) .nil (Fz.le.refl _) ?_
      refine dT 7 rfl rfl rfl (by kernel_rfl) (fun _ _ _ h => h) (y_gs rfl rfl rfl) .nil (Fz.le.refl _) ?_
      refine dT 8 rfl rfl rfl (by kernel_rfl) (fun _ _ _ h => h) (y_gs rfl rfl rfl) .nil (Fz.le.refl _) ?_
      refine dT 9 rfl rfl rfl (by kernel_rfl) (fun _ _ _ h => h) (y_gs rfl rfl rfl) .nil (Fz.le.refl _) ?_
      refine dT 10 rfl rfl rfl (by kernel_rfl) (fun _ _ _ h => h) (y_gs rfl rfl rfl) .nil (Fz.le.refl _) ?_
      refine dT 11 rfl rfl rfl (by kernel_rfl) (fun _ _ _ h => h) (y_gs rfl rfl rfl) .nil (Fz.le.refl _) ?_
      refine dT 12 rfl rfl rfl (by kernel_rfl) (fun _ _ _ h => h) (y_gs rfl rfl rfl) .nil (Fz.le.refl _) ?_
      refine dT 13 rfl rfl rfl (by kernel_rfl) (fun _ _ _ h => h) (y_gs rfl rfl rfl) .nil (Fz.le.refl _) ?_
      refine dT 14 rfl rfl rfl (by kernel_rfl) (fun _ _ _ h => h) (y_gs rfl rfl rfl) .nil (Fz.le.refl _) ?_
      refine dT 15 rfl rfl rfl (by kernel_rfl) (fun _ _ _ h => h) (y_pk rfl rfl rfl) .nil (Fz.le.refl _) ?_
      refine dD (by kernel_rfl) ?_
      refine Nt ?_
      refine cF (by rfl) ?_
      refine exX ?_
      refine XT ?_
      refine XT ?_
      refine Xb ?_
      refine Nb ?_
      refine fun a_ w_ hA hw => ⟨_, _, _, hA.sub ?_, le_1, hw, _, rfl, rfl, rfl, rfl⟩
      exact (.cons rfl (.cons rfl (.cons rfl (.nil _))))
  · skip
    obtain ⟨rfl, rfl, pk0⟩ := hI
    refine toNn ?_
    subst pk0
    exact fun _ _ hA hw => rn rfl le_2 ⟨rfl, rfl⟩ hA hw
theorem tc_86 {H : Fz} {L : Own} {tb : Nat} {c0 c1 c2 c3 : Value} {a va : Option Addr} {m cap vc : Nat} {xs : List Value} {k : Int} {x : List UInt8} {N : Chunk} (hr : Row 69 2 a m cap xs N) (hm : m ≤ 1000000000000) (hx : BytesAt H va vc x) (hxl : x.length ≤ 1000000000000) (h0 : 0 ≤ k) (h1 : k < 4294967296) :
    Fn Tryd.prog 86 [.int .u32 k, .slice va x.length vc, .pointer (some ⟨tb, 0, none⟩)] H ([(tb, .cells [c0, c1, c2, c3, .slice a m cap].toArray 37 (0, 0))] :: N :: L) (fun _ H' L' => ∃ a' cap' N' g, L' = [(tb, .cells [c0, c1, c2, c3, .slice a' (m + 1) cap'].toArray 37 (0, 0))] :: N' :: L ∧ Row 69 2 a' (m + 1) cap' (xs ++ gcf (g, (k, x))) N' ∧ TagAt H' g (k, x)) := by
  refine Fn.mk Tryd.call86 Tryd.func86 rfl Tryd.ntmps86 rfl ?_
  refine rgD 9 (.keep .nil) mixed ?_
  refine dT 0 rfl rfl rfl (by kernel_rfl) (fun _ _ _ h => h) (y_fa0 F37_4 rfl) (.keep .nil) (Fz.le.refl _) ?_
  refine dT 1 rfl rfl rfl (by kernel_rfl) (fun _ _ _ h => h) (y_ld (Says.own .head) Tryd.isAgg35 rfl (Nat.zero_add _).symm rfl) (.keep .nil) (Fz.le.refl _) ?_
  refine dT 2 rfl rfl rfl (by kernel_rfl) (fun _ _ _ h => h) (y_mv rfl) (.keep .nil) (Fz.le.refl _) ?_
  refine dT 3 rfl rfl rfl (by kernel_rfl) (fun _ _ _ h => h) (y_mv rfl) (.keep .nil) (Fz.le.refl _) ?_
  refine dE 4 (by kernel_rfl) rfl ?_
  have hbd9 : x.length ≤ 1000000000000 := hxl
  refine apn (news := bytesOf x) Tryd.underlying22 I5 rfl rfl (src_bytes Tryd.underlying22 hx rfl) (by omega) (by unfold maxLen; omega) rfl (fun a9 c9 N9 r9 => ?_)
  refine frL r9 .head (fun H2 hle2 hz => ?_)
  have hbq := BytesAt.row hz r9 (by unfold B47; omega)
  refine dN (.keep .nil) hle2 ?_
  refine dT 5 rfl rfl rfl (by kernel_rfl) (fun _ _ _ h => h) (y_bd S69 rfl rfl) (.keep .nil) hle2 ?_
  refine dE 6 (by kernel_rfl) rfl ?_
  refine bs' L35 rfl rfl rfl rfl (fun b_1 => ?_)
  refine dN (.skip (.keep .nil)) hle2 ?_
  refine dE 7 (by kernel_rfl) rfl ?_
  refine ap (k := 1) (news := gcf ((⟨a9, c9⟩ : GC), (k, x))) Tryd.underlying35 I69 rfl rfl hr (fun _ => (.tail (.tail .head))) (src_says Tryd.underlying35 rfl (fun _ => Says.own .head) (gcf_one _)) (by omega) (by unfold maxLen; omega) rfl (fun a12 c12 N12 r12 z12 => ?_)
  refine dN (.skip (.keep .nil)) hle2 ?_
  refine dT 8 rfl rfl rfl (by kernel_rfl) (fun _ _ _ h => h) (y_fa0 F37_4 rfl) (.skip (.keep .nil)) hle2 ?_
  refine dE 9 (by kernel_rfl) rfl ?_
  refine st Tryd.sizeOf35 rfl rfl rfl rfl (.tail .head) ?_
  refine dNk (by kernel_rfl) ?_
  refine dD (by kernel_rfl) ?_
  refine drN .head ?_
  exact fun _ _ hA hw => rn rfl hle2 ⟨_, _, _, ⟨a9, c9⟩, rfl, r12, ⟨hbq, h0, h1⟩⟩ hA hw
theorem tc_97 {H : Fz} {L : Own} {tb : Nat} {c0 c1 c2 c3 : Value} {a va : Option Addr} {m cap vc : Nat} {xs : List Value} {k : Int} {x : List UInt8} {N : Chunk} (hr : Row 69 2 a m cap xs N) (hm : m ≤ 1000000000000) (hx : BytesAt H va vc x) (hxl : x.length ≤ 1000000000000) (h0 : 0 ≤ k) (h1 : k < 4294967296) :
    Fn Tryd.prog 97 [.int .u32 k, .slice va x.length vc, .pointer (some ⟨tb, 0, none⟩)] H ([(tb, .cells [c0, c1, c2, c3, .slice a m cap].toArray 37 (0, 0))] :: N :: L) (fun _ H' L' => ∃ a' cap' N' g, L' = [(tb, .cells [c0, c1, c2, c3, .slice a' (m + 1) cap'].toArray 37 (0, 0))] :: N' :: L ∧ Row 69 2 a' (m + 1) cap' (xs ++ gcf (g, (k, x))) N' ∧ TagAt H' g (k, x)) := by
  refine Fn.mk Tryd.call97 Tryd.func97 rfl Tryd.ntmps97 rfl ?_
  refine rgD 9 (.keep .nil) mixed ?_
  refine dT 0 rfl rfl rfl (by kernel_rfl) (fun _ _ _ h => h) (y_fa0 F37_4 rfl) (.keep .nil) (Fz.le.refl _) ?_
  refine dT 1 rfl rfl rfl (by kernel_rfl) (fun _ _ _ h => h) (y_ld (Says.own .head) Tryd.isAgg35 rfl (Nat.zero_add _).symm rfl) (.keep .nil) (Fz.le.refl _) ?_
  refine dT 2 rfl rfl rfl (by kernel_rfl) (fun _ _ _ h => h) (y_mv rfl) (.keep .nil) (Fz.le.refl _) ?_
  refine dT 3 rfl rfl rfl (by kernel_rfl) (fun _ _ _ h => h) (y_mv rfl) (.keep .nil) (Fz.le.refl _) ?_
  refine dE 4 (by kernel_rfl) rfl ?_
  have hbd9 : x.length ≤ 1000000000000 := hxl
  refine apn (news := bytesOf x) Tryd.underlying22 I5 rfl rfl (src_bytes Tryd.underlying22 hx rfl) (by omega) (by unfold maxLen; omega) rfl (fun a9 c9 N9 r9 => ?_)
  refine frL r9 .head (fun H2 hle2 hz => ?_)
  have hbq := BytesAt.row hz r9 (by unfold B47; omega)
  refine dN (.keep .nil) hle2 ?_
  refine dT 5 rfl rfl rfl (by kernel_rfl) (fun _ _ _ h => h) (y_bd S69 rfl rfl) (.keep .nil) hle2 ?_
  refine dE 6 (by kernel_rfl) rfl ?_
  refine bs' L35 rfl rfl rfl rfl (fun b_1 => ?_)
  refine dN (.skip (.keep .nil)) hle2 ?_
  refine dE 7 (by kernel_rfl) rfl ?_
  refine ap (k := 1) (news := gcf ((⟨a9, c9⟩ : GC), (k, x))) Tryd.underlying35 I69 rfl rfl hr (fun _ => (.tail (.tail .head))) (src_says Tryd.underlying35 rfl (fun _ => Says.own .head) (gcf_one _)) (by omega) (by unfold maxLen; omega) rfl (fun a12 c12 N12 r12 z12 => ?_)
  refine dN (.skip (.keep .nil)) hle2 ?_
  refine dT 8 rfl rfl rfl (by kernel_rfl) (fun _ _ _ h => h) (y_fa0 F37_4 rfl) (.skip (.keep .nil)) hle2 ?_
  refine dE 9 (by kernel_rfl) rfl ?_
  refine st Tryd.sizeOf35 rfl rfl rfl rfl (.tail .head) ?_
  refine dNk (by kernel_rfl) ?_
  refine dD (by kernel_rfl) ?_
  refine drN .head ?_
  exact fun _ _ hA hw => rn rfl hle2 ⟨_, _, _, ⟨a9, c9⟩, rfl, r12, ⟨hbq, h0, h1⟩⟩ hA hw
theorem tc_101 {H : Fz} {L : Own} {tb : Nat} {c0 c1 c2 c3 : Value} {a va : Option Addr} {m cap vc : Nat} {xs : List Value} {k : Int} {x : List UInt8} {N : Chunk} (hr : Row 69 2 a m cap xs N) (hm : m ≤ 1000000000000) (hx : BytesAt H va vc x) (hxl : x.length ≤ 1000000000000) (h0 : 0 ≤ k) (h1 : k < 4294967296) :
    Fn Tryd.prog 101 [.int .u32 k, .slice va x.length vc, .pointer (some ⟨tb, 0, none⟩)] H ([(tb, .cells [c0, c1, c2, c3, .slice a m cap].toArray 37 (0, 0))] :: N :: L) (fun _ H' L' => ∃ a' cap' N' g, L' = [(tb, .cells [c0, c1, c2, c3, .slice a' (m + 1) cap'].toArray 37 (0, 0))] :: N' :: L ∧ Row 69 2 a' (m + 1) cap' (xs ++ gcf (g, (k, x))) N' ∧ TagAt H' g (k, x)) := by
  refine Fn.mk Tryd.call101 Tryd.func101 rfl Tryd.ntmps101 rfl ?_
  refine rgD 9 (.keep .nil) mixed ?_
  refine dT 0 rfl rfl rfl (by kernel_rfl) (fun _ _ _ h => h) (y_fa0 F37_4 rfl) (.keep .nil) (Fz.le.refl _) ?_
  refine dT 1 rfl rfl rfl (by kernel_rfl) (fun _ _ _ h => h) (y_ld (Says.own .head) Tryd.isAgg35 rfl (Nat.zero_add _).symm rfl) (.keep .nil) (Fz.le.refl _) ?_
  refine dT 2 rfl rfl rfl (by kernel_rfl) (fun _ _ _ h => h) (y_mv rfl) (.keep .nil) (Fz.le.refl _) ?_
  refine dT 3 rfl rfl rfl (by kernel_rfl) (fun _ _ _ h => h) (y_mv rfl) (.keep .nil) (Fz.le.refl _) ?_
  refine dE 4 (by kernel_rfl) rfl ?_
  have hbd9 : x.length ≤ 1000000000000 := hxl
  refine apn (news := bytesOf x) Tryd.underlying22 I5 rfl rfl (src_bytes Tryd.underlying22 hx rfl) (by omega) (by unfold maxLen; omega) rfl (fun a9 c9 N9 r9 => ?_)
  refine frL r9 .head (fun H2 hle2 hz => ?_)
  have hbq := BytesAt.row hz r9 (by unfold B47; omega)
  refine dN (.keep .nil) hle2 ?_
  refine dT 5 rfl rfl rfl (by kernel_rfl) (fun _ _ _ h => h) (y_bd S69 rfl rfl) (.keep .nil) hle2 ?_
  refine dE 6 (by kernel_rfl) rfl ?_
  refine bs' L35 rfl rfl rfl rfl (fun b_1 => ?_)
  refine dN (.skip (.keep .nil)) hle2 ?_
  refine dE 7 (by kernel_rfl) rfl ?_
  refine ap (k := 1) (news := gcf ((⟨a9, c9⟩ : GC), (k, x))) Tryd.underlying35 I69 rfl rfl hr (fun _ => (.tail (.tail .head))) (src_says Tryd.underlying35 rfl (fun _ => Says.own .head) (gcf_one _)) (by omega) (by unfold maxLen; omega) rfl (fun a12 c12 N12 r12 z12 => ?_)
  refine dN (.skip (.keep .nil)) hle2 ?_
  refine dT 8 rfl rfl rfl (by kernel_rfl) (fun _ _ _ h => h) (y_fa0 F37_4 rfl) (.skip (.keep .nil)) hle2 ?_
  refine dE 9 (by kernel_rfl) rfl ?_
  refine st Tryd.sizeOf35 rfl rfl rfl rfl (.tail .head) ?_
  refine dNk (by kernel_rfl) ?_
  refine dD (by kernel_rfl) ?_
  refine drN .head ?_
  exact fun _ _ hA hw => rn rfl hle2 ⟨_, _, _, ⟨a9, c9⟩, rfl, r12, ⟨hbq, h0, h1⟩⟩ hA hw
theorem tc_104 {H : Fz} {L : Own} {tb : Nat} {c0 c1 c2 c3 : Value} {a va : Option Addr} {m cap vc : Nat} {xs : List Value} {k : Int} {x : List UInt8} {N : Chunk} (hr : Row 69 2 a m cap xs N) (hm : m ≤ 1000000000000) (hx : BytesAt H va vc x) (hxl : x.length ≤ 1000000000000) (h0 : 0 ≤ k) (h1 : k < 4294967296) :
    Fn Tryd.prog 104 [.int .u32 k, .slice va x.length vc, .pointer (some ⟨tb, 0, none⟩)] H ([(tb, .cells [c0, c1, c2, c3, .slice a m cap].toArray 37 (0, 0))] :: N :: L) (fun _ H' L' => ∃ a' cap' N' g, L' = [(tb, .cells [c0, c1, c2, c3, .slice a' (m + 1) cap'].toArray 37 (0, 0))] :: N' :: L ∧ Row 69 2 a' (m + 1) cap' (xs ++ gcf (g, (k, x))) N' ∧ TagAt H' g (k, x)) := by
  refine Fn.mk Tryd.call104 Tryd.func104 rfl Tryd.ntmps104 rfl ?_
  refine rgD 9 (.keep .nil) mixed ?_
  refine dT 0 rfl rfl rfl (by kernel_rfl) (fun _ _ _ h => h) (y_fa0 F37_4 rfl) (.keep .nil) (Fz.le.refl _) ?_
  refine dT 1 rfl rfl rfl (by kernel_rfl) (fun _ _ _ h => h) (y_ld (Says.own .head) Tryd.isAgg35 rfl (Nat.zero_add _).symm rfl) (.keep .nil) (Fz.le.refl _) ?_
  refine dT 2 rfl rfl rfl (by kernel_rfl) (fun _ _ _ h => h) (y_mv rfl) (.keep .nil) (Fz.le.refl _) ?_
  refine dT 3 rfl rfl rfl (by kernel_rfl) (fun _ _ _ h => h) (y_mv rfl) (.keep .nil) (Fz.le.refl _) ?_
  refine dE 4 (by kernel_rfl) rfl ?_
  have hbd9 : x.length ≤ 1000000000000 := hxl
  refine apn (news := bytesOf x) Tryd.underlying22 I5 rfl rfl (src_bytes Tryd.underlying22 hx rfl) (by omega) (by unfold maxLen; omega) rfl (fun a9 c9 N9 r9 => ?_)
  refine frL r9 .head (fun H2 hle2 hz => ?_)
  have hbq := BytesAt.row hz r9 (by unfold B47; omega)
  refine dN (.keep .nil) hle2 ?_
  refine dT 5 rfl rfl rfl (by kernel_rfl) (fun _ _ _ h => h) (y_bd S69 rfl rfl) (.keep .nil) hle2 ?_
  refine dE 6 (by kernel_rfl) rfl ?_
  refine bs' L35 rfl rfl rfl rfl (fun b_1 => ?_)
  refine dN (.skip (.keep .nil)) hle2 ?_
  refine dE 7 (by kernel_rfl) rfl ?_
  refine ap (k := 1) (news := gcf ((⟨a9, c9⟩ : GC), (k, x))) Tryd.underlying35 I69 rfl rfl hr (fun _ => (.tail (.tail .head))) (src_says Tryd.underlying35 rfl (fun _ => Says.own .head) (gcf_one _)) (by omega) (by unfold maxLen; omega) rfl (fun a12 c12 N12 r12 z12 => ?_)
  refine dN (.skip (.keep .nil)) hle2 ?_
  refine dT 8 rfl rfl rfl (by kernel_rfl) (fun _ _ _ h => h) (y_fa0 F37_4 rfl) (.skip (.keep .nil)) hle2 ?_
  refine dE 9 (by kernel_rfl) rfl ?_
  refine st Tryd.sizeOf35 rfl rfl rfl rfl (.tail .head) ?_
  refine dNk (by kernel_rfl) ?_
  refine dD (by kernel_rfl) ?_
  refine drN .head ?_
  exact fun _ _ hA hw => rn rfl hle2 ⟨_, _, _, ⟨a9, c9⟩, rfl, r12, ⟨hbq, h0, h1⟩⟩ hA hw
theorem tc_107 {H : Fz} {L : Own} {tb : Nat} {c0 c1 c2 c3 : Value} {a va : Option Addr} {m cap vc : Nat} {xs : List Value} {k : Int} {x : List UInt8} {N : Chunk} (hr : Row 69 2 a m cap xs N) (hm : m ≤ 1000000000000) (hx : BytesAt H va vc x) (hxl : x.length ≤ 1000000000000) (h0 : 0 ≤ k) (h1 : k < 4294967296) :
    Fn Tryd.prog 107 [.int .u32 k, .slice va x.length vc, .pointer (some ⟨tb, 0, none⟩)] H ([(tb, .cells [c0, c1, c2, c3, .slice a m cap].toArray 37 (0, 0))] :: N :: L) (fun _ H' L' => ∃ a' cap' N' g, L' = [(tb, .cells [c0, c1, c2, c3, .slice a' (m + 1) cap'].toArray 37 (0, 0))] :: N' :: L ∧ Row 69 2 a' (m + 1) cap' (xs ++ gcf (g, (k, x))) N' ∧ TagAt H' g (k, x)) := by
  refine Fn.mk Tryd.call107 Tryd.func107 rfl Tryd.ntmps107 rfl ?_
  refine rgD 9 (.keep .nil) mixed ?_
  refine dT 0 rfl rfl rfl (by kernel_rfl) (fun _ _ _ h => h) (y_fa0 F37_4 rfl) (.keep .nil) (Fz.le.refl _) ?_
  refine dT 1 rfl rfl rfl (by kernel_rfl) (fun _ _ _ h => h) (y_ld (Says.own .head) Tryd.isAgg35 rfl (Nat.zero_add _).symm rfl) (.keep .nil) (Fz.le.refl _) ?_
  refine dT 2 rfl rfl rfl (by kernel_rfl) (fun _ _ _ h => h) (y_mv rfl) (.keep .nil) (Fz.le.refl _) ?_
  refine dT 3 rfl rfl rfl (by kernel_rfl) (fun _ _ _ h => h) (y_mv rfl) (.keep .nil) (Fz.le.refl _) ?_
  refine dE 4 (by kernel_rfl) rfl ?_
  have hbd9 : x.length ≤ 1000000000000 := hxl
  refine apn (news := bytesOf x) Tryd.underlying22 I5 rfl rfl (src_bytes Tryd.underlying22 hx rfl) (by omega) (by unfold maxLen; omega) rfl (fun a9 c9 N9 r9 => ?_)
  refine frL r9 .head (fun H2 hle2 hz => ?_)
  have hbq := BytesAt.row hz r9 (by unfold B47; omega)
  refine dN (.keep .nil) hle2 ?_
  refine dT 5 rfl rfl rfl (by kernel_rfl) (fun _ _ _ h => h) (y_bd S69 rfl rfl) (.keep .nil) hle2 ?_
  refine dE 6 (by kernel_rfl) rfl ?_
  refine bs' L35 rfl rfl rfl rfl (fun b_1 => ?_)
  refine dN (.skip (.keep .nil)) hle2 ?_
  refine dE 7 (by kernel_rfl) rfl ?_
  refine ap (k := 1) (news := gcf ((⟨a9, c9⟩ : GC), (k, x))) Tryd.underlying35 I69 rfl rfl hr (fun _ => (.tail (.tail .head))) (src_says Tryd.underlying35 rfl (fun _ => Says.own .head) (gcf_one _)) (by omega) (by unfold maxLen; omega) rfl (fun a12 c12 N12 r12 z12 => ?_)
  refine dN (.skip (.keep .nil)) hle2 ?_
  refine dT 8 rfl rfl rfl (by kernel_rfl) (fun _ _ _ h => h) (y_fa0 F37_4 rfl) (.skip (.keep .nil)) hle2 ?_
  refine dE 9 (by kernel_rfl) rfl ?_
  refine st Tryd.sizeOf35 rfl rfl rfl rfl (.tail .head) ?_
  refine dNk (by kernel_rfl) ?_
  refine dD (by kernel_rfl) ?_
  refine drN .head ?_
  exact fun _ _ hA hw => rn rfl hle2 ⟨_, _, _, ⟨a9, c9⟩, rfl, r12, ⟨hbq, h0, h1⟩⟩ hA hw
theorem tc_110 {H : Fz} {L : Own} {tb : Nat} {c0 c1 c2 c3 : Value} {a va : Option Addr} {m cap vc : Nat} {xs : List Value} {k : Int} {x : List UInt8} {N : Chunk} (hr : Row 69 2 a m cap xs N) (hm : m ≤ 1000000000000) (hx : BytesAt H va vc x) (hxl : x.length ≤ 1000000000000) (h0 : 0 ≤ k) (h1 : k < 4294967296) :
    Fn Tryd.prog 110 [.int .u32 k, .slice va x.length vc, .pointer (some ⟨tb, 0, none⟩)] H ([(tb, .cells [c0, c1, c2, c3, .slice a m cap].toArray 37 (0, 0))] :: N :: L) (fun _ H' L' => ∃ a' cap' N' g, L' = [(tb, .cells [c0, c1, c2, c3, .slice a' (m + 1) cap'].toArray 37 (0, 0))] :: N' :: L ∧ Row 69 2 a' (m + 1) cap' (xs ++ gcf (g, (k, x))) N' ∧ TagAt H' g (k, x)) := by
  refine Fn.mk Tryd.call110 Tryd.func110 rfl Tryd.ntmps110 rfl ?_
  refine rgD 9 (.keep .nil) mixed ?_
  refine dT 0 rfl rfl rfl (by kernel_rfl) (fun _ _ _ h => h) (y_fa0 F37_4 rfl) (.keep .nil) (Fz.le.refl _) ?_
  refine dT 1 rfl rfl rfl (by kernel_rfl) (fun _ _ _ h => h) (y_ld (Says.own .head) Tryd.isAgg35 rfl (Nat.zero_add _).symm rfl) (.keep .nil) (Fz.le.refl _) ?_
  refine dT 2 rfl rfl rfl (by kernel_rfl) (fun _ _ _ h => h) (y_mv rfl) (.keep .nil) (Fz.le.refl _) ?_
  refine dT 3 rfl rfl rfl (by kernel_rfl) (fun _ _ _ h => h) (y_mv rfl) (.keep .nil) (Fz.le.refl _) ?_
  refine dE 4 (by kernel_rfl) rfl ?_
  have hbd9 : x.length ≤ 1000000000000 := hxl
  refine apn (news := bytesOf x) Tryd.underlying22 I5 rfl rfl (src_bytes Tryd.underlying22 hx rfl) (by omega) (by unfold maxLen; omega) rfl (fun a9 c9 N9 r9 => ?_)
  refine frL r9 .head (fun H2 hle2 hz => ?_)
  have hbq := BytesAt.row hz r9 (by unfold B47; omega)
  refine dN (.keep .nil) hle2 ?_
  refine dT 5 rfl rfl rfl (by kernel_rfl) (fun _ _ _ h => h) (y_bd S69 rfl rfl) (.keep .nil) hle2 ?_
  refine dE 6 (by kernel_rfl) rfl ?_
  refine bs' L35 rfl rfl rfl rfl (fun b_1 => ?_)
  refine dN (.skip (.keep .nil)) hle2 ?_
  refine dE 7 (by kernel_rfl) rfl ?_
  refine ap (k := 1) (news := gcf ((⟨a9, c9⟩ : GC), (k, x))) Tryd.underlying35 I69 rfl rfl hr (fun _ => (.tail (.tail .head))) (src_says Tryd.underlying35 rfl (fun _ => Says.own .head) (gcf_one _)) (by omega) (by unfold maxLen; omega) rfl (fun a12 c12 N12 r12 z12 => ?_)
  refine dN (.skip (.keep .nil)) hle2 ?_
  refine dT 8 rfl rfl rfl (by kernel_rfl) (fun _ _ _ h => h) (y_fa0 F37_4 rfl) (.skip (.keep .nil)) hle2 ?_
  refine dE 9 (by kernel_rfl) rfl ?_
  refine st Tryd.sizeOf35 rfl rfl rfl rfl (.tail .head) ?_
  refine dNk (by kernel_rfl) ?_
  refine dD (by kernel_rfl) ?_
  refine drN .head ?_
  exact fun _ _ hA hw => rn rfl hle2 ⟨_, _, _, ⟨a9, c9⟩, rfl, r12, ⟨hbq, h0, h1⟩⟩ hA hw
end Go.Sx

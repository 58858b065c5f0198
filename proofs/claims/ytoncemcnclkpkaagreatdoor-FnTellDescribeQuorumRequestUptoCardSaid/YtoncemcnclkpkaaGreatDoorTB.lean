import Derived.Test.YtoncemcnclkpkaaGreatDoorSxTab
import Derived.Test.YtoncemcnclkpkaaGreatDoorRK2
import Derived.Test.YtoncemcnclkpkaaGreatDoorLibI
import Derived.KernelRfl
set_option linter.unusedVariables false
set_option linter.unusedSimpArgs false
set_option maxRecDepth 100000
set_option maxHeartbeats 20000000
namespace Go.Sx
open Go.Proofs
theorem k_boolTree {H : Fz} {L : Own} {p : Bool} :
    Fn Tryz.prog 103 [.bool p] H L (fun v H' L' => H = H' ∧ L = L' ∧ v = .agg (TC.none.cells (.mk (if p then 1 else 0) [] false [] [])).toArray) := by
  refine Fn.mk Tryz.call103 Tryz.func103 rfl Tryz.ntmps103 rfl ?_
  refine sr ?_
  refine al Tryz.zeroValue37 rfl rfl (fun b_1 => ?_)
  refine nl ?_
  refine sq ?_
  refine sr ?_
  refine mv rfl rfl ?_
  refine nl ?_
  refine cb rfl (fun h3 => ?_) (fun h3 => ?_)
  · skip
    refine sr ?_
    refine bd' S37 rfl rfl rfl ?_
    refine sa Tryz.sizeOf37 rfl rfl rfl rfl rfl .head ?_
    refine nl ?_
    exact rC rfl Tryz.isAgg37 Tryz.sizeOf37 rfl .head rfl (Fz.le.refl _) (fun _ _ h => h) ⟨rfl, rfl, by rw [h3]; rfl⟩
  · skip
    refine skt ?_
    refine sr ?_
    refine bd' S37 rfl rfl rfl ?_
    refine sa Tryz.sizeOf37 rfl rfl rfl rfl rfl .head ?_
    refine nl ?_
    exact rC rfl Tryz.isAgg37 Tryz.sizeOf37 rfl .head rfl (Fz.le.refl _) (fun _ _ h => h) ⟨rfl, rfl, by rw [h3]; rfl⟩
theorem k_textTree {H : Fz} {L : Own} {p : Option Addr} {T : Tr} (hT : TextAt H T p) (hf : Fits T) :
    Fn Tryz.prog 91 [.pointer p] H L (fun v H' L' => L = L' ∧ ∃ c : TC, v = .agg (c.cells (.mk 0 (sT T) T.nul [] [])).toArray ∧ TreeAt H' c (.mk 0 (sT T) T.nul [] [])) := by
  refine Fn.mk Tryz.call91 Tryz.func91 rfl Tryz.ntmps91 rfl ?_
  refine sr ?_
  refine al Tryz.zeroValue37 rfl rfl (fun b_1 => ?_)
  refine nl ?_
  refine sq ?_
  refine sr ?_
  refine mv rfl rfl ?_
  refine epn Tryz.underlying114 rfl rfl ?_
  refine nl ?_
  refine cb rfl (fun h4 => ?_) (fun h4 => ?_)
  · skip
    have hnu : T.nul = true := hT.nul.symm.trans h4
    have hs : sT T = [] := by unfold sT; rw [hnu]; rfl
    refine sr ?_
    refine bd' S37 rfl rfl rfl ?_
    refine sa Tryz.sizeOf37 rfl rfl rfl rfl rfl .head ?_
    refine nl ?_
    exact rC rfl Tryz.isAgg37 Tryz.sizeOf37 rfl .head rfl (Fz.le.refl _) (fun _ _ h => h) ⟨rfl, TC.none, by rw [hs, hnu]; rfl, by rw [hs]; exact .of (.nil _) (.nil _) (.nil _)⟩
  · skip
    have hnu : T.nul = false := hT.nul.symm.trans h4
    have hs : sT T = T.s := sT_nn hnu
    obtain ⟨ad, rfl⟩ : ∃ ad, p = some ad := by
      cases p with
      | none => cases h4
      | some ad => exact ⟨ad, rfl⟩
    obtain ⟨b, rfl, hb⟩ := hT.val _ rfl
    refine skt ?_
    refine sr ?_
    refine mv rfl rfl ?_
    refine nc rfl rfl ?_
    refine ld (j := 0) (Says.fz hb) Tryz.isAgg9 rfl rfl rfl rfl ?_
    refine csb Tryz.underlying9 Tryz.underlying22 Tryz.underlying5 rfl (by have := hf.s; unfold B47; omega) rfl (fun Hb9 b9 cp9 le_2 hb9 => ?_)
    refine bd' S37 rfl rfl rfl ?_
    refine sa Tryz.sizeOf37 rfl rfl rfl rfl rfl .head ?_
    refine nl ?_
    exact rC rfl Tryz.isAgg37 Tryz.sizeOf37 rfl .head rfl le_2 (fun _ _ h => h) ⟨rfl, ⟨some ⟨b9, 0, none⟩, cp9, none, 0, none, 0⟩, by rw [hs, hnu]; rfl, by rw [hs]; exact .of hb9 (.nil _) (.nil _)⟩
theorem k_sorted {H : Fz} {L : Own} {a : Option Addr} {c : Nat} {us : List (Int × List UInt8)} (hu : TagsAt H a c us) (hr : (us.map (·.1)).Pairwise (· ≤ ·)) :
    Fn Tryz.prog 75 [.slice a us.length c] H L (fun _ H' L' => H = H' ∧ L = L') := by
  have hul := hu.len
  refine Fn.mk Tryz.call75 Tryz.func75 rfl Tryz.ntmps75 rfl ?_
  refine sr ?_
  refine mv rfl rfl ?_
  refine ls Tryz.runUnderlying35 rfl rfl ?_
  refine mv rfl rfl ?_
  refine nl ?_
  refine fr (us.length) (fun k l' H' L' => [(0, .slice a us.length c), (5, .int .i64 (us.length : Int))] = l' ∧ L = L' ∧ H = H') [(0, .slice a us.length c), (5, .int .i64 (us.length : Int))] (fun k l' H' L' h => ?_) (by omega) rfl (.cons rfl (.cons rfl (.nil _))) ⟨rfl, rfl, rfl⟩ rfl rfl rfl rfl rfl (fun k l' H' L' hk le_1 hI => ?_) (fun l' H' L' le_2 hI => ?_)
  · obtain ⟨rfl, _⟩ := h; exact ⟨rfl, rfl, rfl, rfl⟩
  · skip
    obtain ⟨rfl, rfl, pk0⟩ := hI
    subst pk0
    refine sr ?_
    refine mv rfl rfl ?_
    refine asg rfl rfl ?_
    refine nl ?_
    refine sr ?_
    refine mv rfl rfl ?_
    refine asg rfl rfl ?_
    refine nl ?_
    refine bl (lp 0 (fun i l' H' L' => [(0, .slice a us.length c), (3, .int .i64 (k : Int)), (5, .int .i64 (us.length : Int)), (6, .int .i64 (k : Int))] = l' ∧ H = H' ∧ L = L') [(0, .slice a us.length c), (3, .int .i64 (k : Int)), (5, .int .i64 (us.length : Int)), (6, .int .i64 (k : Int))] (.cons rfl (.cons rfl (.cons rfl (.cons rfl (.nil _))))) ⟨rfl, rfl, rfl⟩ (fun i l' H' L' hi_ le_3 hI => ?_))
    obtain ⟨rfl, rfl, rfl⟩ := hI
    refine sq ?_
    refine sq ?_
    refine rgD 16 .nil mixed ?_
    refine dT 0 rfl rfl rfl (by kernel_rfl) (fun _ _ _ h => h) (y_mv rfl) .nil (Fz.le.refl _) ?_
    refine dT 1 rfl rfl rfl (by kernel_rfl) (fun _ _ _ h => h) (y_gt rfl rfl) .nil (Fz.le.refl _) ?_
    refine dT 2 rfl rfl rfl (by kernel_rfl) (fun _ _ _ h => h) (y_mv rfl) .nil (Fz.le.refl _) ?_
    refine splH (t := 12) rfl (fun h12 => ?_) (fun h12 => ?_)
    · skip
      refine dT 3 rfl rfl rfl (by kernel_rfl) (fun _ _ _ h => h) (y_gr rfl rfl (y_mv rfl)) .nil (Fz.le.refl _) ?_
      refine dT 4 rfl rfl rfl (by kernel_rfl) (fun _ _ _ h => h) (y_gr rfl rfl (y_mv rfl)) .nil (Fz.le.refl _) ?_
      obtain ⟨b_4, o_5, e_6, g_7⟩ := hu.at_ (ne_nil_of_lt hk)
      obtain ⟨c_8, q_9, q_10⟩ := g_7 k hk
      refine dT 5 rfl rfl rfl (by kernel_rfl) (fun _ _ _ h => h) (y_gr rfl rfl (y_ixk (j := k) Tryz.runUnderlying35 Tryz.sizeOf69 rfl e_6 rfl (by omega) hk)) .nil (Fz.le.refl _) ?_
      refine dT 6 rfl rfl rfl (by kernel_rfl) (fun _ _ _ h => h) (y_gr rfl rfl (y_fa F69_0 rfl)) .nil (Fz.le.refl _) ?_
      refine dT 7 rfl rfl rfl (by kernel_rfl) (fun _ _ _ h => h) (y_gr rfl rfl (y_ld (j := 0) (Says.fz q_9) Tryz.isAgg64 rfl (Nat.add_zero _).symm rfl)) .nil (Fz.le.refl _) ?_
      refine dT 8 rfl rfl rfl (by kernel_rfl) (fun _ _ _ h => h) (y_gr rfl rfl (y_mv rfl)) .nil (Fz.le.refl _) ?_
      refine dT 9 rfl rfl rfl (by kernel_rfl) (fun _ _ _ h => h) (y_gr rfl rfl (y_mv rfl)) .nil (Fz.le.refl _) ?_
      have hk1 : k - 1 < us.length := by omega
      refine dT 10 rfl rfl rfl (by kernel_rfl) (fun _ _ _ h => h) (y_gr rfl rfl (y_sb rfl rfl (w64 (by omega) (by omega)))) .nil (Fz.le.refl _) ?_
      obtain ⟨b_11, o_12, e_13, g_14⟩ := hu.at_ (ne_nil_of_lt hk)
      obtain ⟨c_15, q_16, q_17⟩ := g_14 (k - 1) hk1
      refine dT 11 rfl rfl rfl (by kernel_rfl) (fun _ _ _ h => h) (y_gr rfl rfl (y_ixk (j := (k - 1)) Tryz.runUnderlying35 Tryz.sizeOf69 rfl e_13 rfl (by omega) hk1)) .nil (Fz.le.refl _) ?_
      refine dT 12 rfl rfl rfl (by kernel_rfl) (fun _ _ _ h => h) (y_gr rfl rfl (y_fa F69_0 rfl)) .nil (Fz.le.refl _) ?_
      refine dT 13 rfl rfl rfl (by kernel_rfl) (fun _ _ _ h => h) (y_gr rfl rfl (y_ld (j := 0) (Says.fz q_16) Tryz.isAgg64 rfl (Nat.add_zero _).symm rfl)) .nil (Fz.le.refl _) ?_
      refine dT 14 rfl rfl rfl (by kernel_rfl) (fun _ _ _ h => h) (y_gr rfl rfl (y_lt rfl rfl)) .nil (Fz.le.refl _) ?_
      refine dT 15 rfl rfl rfl (by kernel_rfl) (fun _ _ _ h => h) (y_pk rfl rfl rfl) .nil (Fz.le.refl _) ?_
      refine dD (by kernel_rfl) ?_
      refine Nt ?_
      refine cF (by show some (Value.bool (decide _)) = some (.bool false); rw [decide_eq_false (by have := rise_get hr (show k - 1 < k by omega) hk; omega)]) ?_
      refine exX ?_
      refine XT ?_
      refine XT ?_
      refine Xb ?_
      refine Nb ?_
      refine fun a_ w_ hA hw => ⟨_, _, _, hA.sub ?_, le_1, hw, _, rfl, rfl, rfl, rfl⟩
      exact (.cons rfl (.cons rfl (.cons rfl (.nil _))))
    · skip
      refine dT 3 rfl rfl rfl (by kernel_rfl) (fun _ _ _ h => h) (y_gs rfl rfl rfl) .nil (Fz.le.refl _) ?_
      refine dT 4 rfl rfl rfl (by kernel_rfl) (fun _ _ _ h => h) (y_gs rfl rfl rfl) .nil (Fz.le.refl _) ?_
      refine dT 5 rfl rfl rfl (by kernel_rfl) (fun _ _ _ h => h) (y_gs rfl rfl rfl) .nil (Fz.le.refl _) ?_
      refine dT 6 rfl rfl rfl (by kernel_rfl) (fun _ _ _ h => h) (y_gs rfl rfl rfl) .nil (Fz.le.refl _) ?_
      refine dT 7 rfl rfl rfl (by kernel_rfl) (fun _ _ _ h => h) (y_gs rfl rfl rfl) .nil (Fz.le.refl _) ?_
      refine dT 8 rfl rfl rfl (by kernel_rfl) (fun _ _ _ h => h) (y_gs rfl rfl rfl) .nil (Fz.le.refl _) ?_
      refine dT 9 rfl rfl rfl (by kernel_rfl) (fun _ _ _ h => h) (y_gs rfl rfl rfl) .nil (Fz.le.refl _) ?_
      refine dT 10 rfl rfl rfl (by kernel_rfl) (fun _ _ _ h => h) (y_gs rfl rfl rfl) .nil (Fz.le.refl _) ?_
      refine dT 11 rfl rfl rfl (by kernel_rfl) (fun _ _ _ h => h) (y_gs rfl rfl rfl) .nil (Fz.le.refl _) ?_
      refine dT 12 rfl rfl rfl (by kernel_rfl) (fun _ _ _ h => h) (y_gs rfl rfl rfl) .nil (Fz.le.refl _) ?_
      refine dT 13 rfl rfl rfl (by kernel_rfl) (fun _ _ _ h => h) (y_gs rfl rfl rfl) .nil (Fz.le.refl _) ?_
      refine dT 14 rfl rfl rfl (by kernel_rfl) (fun _ _ _ h => h) (y_gs rfl rfl rfl) .nil (Fz.le.refl _) ?_
      refine dT 15 rfl rfl rfl (by kernel_rfl) (fun _ _ _ h => h) (y_pk rfl rfl rfl) .nil (Fz.le.refl _) ?_
      refine dD (by kernel_rfl) ?_
      refine Nt ?_
      refine cF (by rfl) ?_
      refine exX ?_
      refine XT ?_
      refine XT ?_
      refine Xb ?_
      refine Nb ?_
      refine fun a_ w_ hA hw => ⟨_, _, _, hA.sub ?_, le_1, hw, _, rfl, rfl, rfl, rfl⟩
      exact (.cons rfl (.cons rfl (.cons rfl (.nil _))))
  · skip
    obtain ⟨rfl, rfl, pk0⟩ := hI
    refine toNn ?_
    subst pk0
    exact fun _ _ hA hw => rn rfl le_2 ⟨rfl, rfl⟩ hA hw
theorem tc_74 {H : Fz} {L : Own} {tb : Nat} {c0 c1 c2 c3 : Value} {a va : Option Addr} {m cap vc : Nat} {xs : List Value} {k : Int} {x : List UInt8} {N : Chunk} (hr : Row 69 2 a m cap xs N) (hm : m ≤ 1000000000000) (hx : BytesAt H va vc x) (hxl : x.length ≤ 1000000000000) (h0 : 0 ≤ k) (h1 : k < 4294967296) :
    Fn Tryz.prog 74 [.int .u32 k, .slice va x.length vc, .pointer (some ⟨tb, 0, none⟩)] H ([(tb, .cells [c0, c1, c2, c3, .slice a m cap].toArray 37 (0, 0))] :: N :: L) (fun _ H' L' => ∃ a' cap' N' g, L' = [(tb, .cells [c0, c1, c2, c3, .slice a' (m + 1) cap'].toArray 37 (0, 0))] :: N' :: L ∧ Row 69 2 a' (m + 1) cap' (xs ++ gcf (g, (k, x))) N' ∧ TagAt H' g (k, x)) := by
  refine Fn.mk Tryz.call74 Tryz.func74 rfl Tryz.ntmps74 rfl ?_
  refine rgD 9 (.keep .nil) mixed ?_
  refine dT 0 rfl rfl rfl (by kernel_rfl) (fun _ _ _ h => h) (y_fa0 F37_4 rfl) (.keep .nil) (Fz.le.refl _) ?_
  refine dT 1 rfl rfl rfl (by kernel_rfl) (fun _ _ _ h => h) (y_ld (Says.own .head) Tryz.isAgg35 rfl (Nat.zero_add _).symm rfl) (.keep .nil) (Fz.le.refl _) ?_
  refine dT 2 rfl rfl rfl (by kernel_rfl) (fun _ _ _ h => h) (y_mv rfl) (.keep .nil) (Fz.le.refl _) ?_
  refine dT 3 rfl rfl rfl (by kernel_rfl) (fun _ _ _ h => h) (y_mv rfl) (.keep .nil) (Fz.le.refl _) ?_
  refine dE 4 (by kernel_rfl) rfl ?_
  have hbd9 : x.length ≤ 1000000000000 := hxl
  refine apn (news := bytesOf x) Tryz.underlying22 I5 rfl rfl (src_bytes Tryz.underlying22 hx rfl) (by omega) (by unfold maxLen; omega) rfl (fun a9 c9 N9 r9 => ?_)
  refine frL r9 .head (fun H2 hle2 hz => ?_)
  have hbq := BytesAt.row hz r9 (by unfold B47; omega)
  refine dN (.keep .nil) hle2 ?_
  refine dT 5 rfl rfl rfl (by kernel_rfl) (fun _ _ _ h => h) (y_bd S69 rfl rfl) (.keep .nil) hle2 ?_
  refine dE 6 (by kernel_rfl) rfl ?_
  refine bs' L35 rfl rfl rfl rfl (fun b_1 => ?_)
  refine dN (.skip (.keep .nil)) hle2 ?_
  refine dE 7 (by kernel_rfl) rfl ?_
  refine ap (k := 1) (news := gcf ((⟨a9, c9⟩ : GC), (k, x))) Tryz.underlying35 I69 rfl rfl hr (fun _ => (.tail (.tail .head))) (src_says Tryz.underlying35 rfl (fun _ => Says.own .head) (gcf_one _)) (by omega) (by unfold maxLen; omega) rfl (fun a12 c12 N12 r12 z12 => ?_)
  refine dN (.skip (.keep .nil)) hle2 ?_
  refine dT 8 rfl rfl rfl (by kernel_rfl) (fun _ _ _ h => h) (y_fa0 F37_4 rfl) (.skip (.keep .nil)) hle2 ?_
  refine dE 9 (by kernel_rfl) rfl ?_
  refine st Tryz.sizeOf35 rfl rfl rfl rfl (.tail .head) ?_
  refine dNk (by kernel_rfl) ?_
  refine dD (by kernel_rfl) ?_
  refine drN .head ?_
  exact fun _ _ hA hw => rn rfl hle2 ⟨_, _, _, ⟨a9, c9⟩, rfl, r12, ⟨hbq, h0, h1⟩⟩ hA hw
theorem tc_88 {H : Fz} {L : Own} {tb : Nat} {c0 c1 c2 c3 : Value} {a va : Option Addr} {m cap vc : Nat} {xs : List Value} {k : Int} {x : List UInt8} {N : Chunk} (hr : Row 69 2 a m cap xs N) (hm : m ≤ 1000000000000) (hx : BytesAt H va vc x) (hxl : x.length ≤ 1000000000000) (h0 : 0 ≤ k) (h1 : k < 4294967296) :
    Fn Tryz.prog 88 [.int .u32 k, .slice va x.length vc, .pointer (some ⟨tb, 0, none⟩)] H ([(tb, .cells [c0, c1, c2, c3, .slice a m cap].toArray 37 (0, 0))] :: N :: L) (fun _ H' L' => ∃ a' cap' N' g, L' = [(tb, .cells [c0, c1, c2, c3, .slice a' (m + 1) cap'].toArray 37 (0, 0))] :: N' :: L ∧ Row 69 2 a' (m + 1) cap' (xs ++ gcf (g, (k, x))) N' ∧ TagAt H' g (k, x)) := by
  refine Fn.mk Tryz.call88 Tryz.func88 rfl Tryz.ntmps88 rfl ?_
  refine rgD 9 (.keep .nil) mixed ?_
  refine dT 0 rfl rfl rfl (by kernel_rfl) (fun _ _ _ h => h) (y_fa0 F37_4 rfl) (.keep .nil) (Fz.le.refl _) ?_
  refine dT 1 rfl rfl rfl (by kernel_rfl) (fun _ _ _ h => h) (y_ld (Says.own .head) Tryz.isAgg35 rfl (Nat.zero_add _).symm rfl) (.keep .nil) (Fz.le.refl _) ?_
  refine dT 2 rfl rfl rfl (by kernel_rfl) (fun _ _ _ h => h) (y_mv rfl) (.keep .nil) (Fz.le.refl _) ?_
  refine dT 3 rfl rfl rfl (by kernel_rfl) (fun _ _ _ h => h) (y_mv rfl) (.keep .nil) (Fz.le.refl _) ?_
  refine dE 4 (by kernel_rfl) rfl ?_
  have hbd9 : x.length ≤ 1000000000000 := hxl
  refine apn (news := bytesOf x) Tryz.underlying22 I5 rfl rfl (src_bytes Tryz.underlying22 hx rfl) (by omega) (by unfold maxLen; omega) rfl (fun a9 c9 N9 r9 => ?_)
  refine frL r9 .head (fun H2 hle2 hz => ?_)
  have hbq := BytesAt.row hz r9 (by unfold B47; omega)
  refine dN (.keep .nil) hle2 ?_
  refine dT 5 rfl rfl rfl (by kernel_rfl) (fun _ _ _ h => h) (y_bd S69 rfl rfl) (.keep .nil) hle2 ?_
  refine dE 6 (by kernel_rfl) rfl ?_
  refine bs' L35 rfl rfl rfl rfl (fun b_1 => ?_)
  refine dN (.skip (.keep .nil)) hle2 ?_
  refine dE 7 (by kernel_rfl) rfl ?_
  refine ap (k := 1) (news := gcf ((⟨a9, c9⟩ : GC), (k, x))) Tryz.underlying35 I69 rfl rfl hr (fun _ => (.tail (.tail .head))) (src_says Tryz.underlying35 rfl (fun _ => Says.own .head) (gcf_one _)) (by omega) (by unfold maxLen; omega) rfl (fun a12 c12 N12 r12 z12 => ?_)
  refine dN (.skip (.keep .nil)) hle2 ?_
  refine dT 8 rfl rfl rfl (by kernel_rfl) (fun _ _ _ h => h) (y_fa0 F37_4 rfl) (.skip (.keep .nil)) hle2 ?_
  refine dE 9 (by kernel_rfl) rfl ?_
  refine st Tryz.sizeOf35 rfl rfl rfl rfl (.tail .head) ?_
  refine dNk (by kernel_rfl) ?_
  refine dD (by kernel_rfl) ?_
  refine drN .head ?_
  exact fun _ _ hA hw => rn rfl hle2 ⟨_, _, _, ⟨a9, c9⟩, rfl, r12, ⟨hbq, h0, h1⟩⟩ hA hw
theorem tc_93 {H : Fz} {L : Own} {tb : Nat} {c0 c1 c2 c3 : Value} {a va : Option Addr} {m cap vc : Nat} {xs : List Value} {k : Int} {x : List UInt8} {N : Chunk} (hr : Row 69 2 a m cap xs N) (hm : m ≤ 1000000000000) (hx : BytesAt H va vc x) (hxl : x.length ≤ 1000000000000) (h0 : 0 ≤ k) (h1 : k < 4294967296) :
    Fn Tryz.prog 93 [.int .u32 k, .slice va x.length vc, .pointer (some ⟨tb, 0, none⟩)] H ([(tb, .cells [c0, c1, c2, c3, .slice a m cap].toArray 37 (0, 0))] :: N :: L) (fun _ H' L' => ∃ a' cap' N' g, L' = [(tb, .cells [c0, c1, c2, c3, .slice a' (m + 1) cap'].toArray 37 (0, 0))] :: N' :: L ∧ Row 69 2 a' (m + 1) cap' (xs ++ gcf (g, (k, x))) N' ∧ TagAt H' g (k, x)) := by
  refine Fn.mk Tryz.call93 Tryz.func93 rfl Tryz.ntmps93 rfl ?_
  refine rgD 9 (.keep .nil) mixed ?_
  refine dT 0 rfl rfl rfl (by kernel_rfl) (fun _ _ _ h => h) (y_fa0 F37_4 rfl) (.keep .nil) (Fz.le.refl _) ?_
  refine dT 1 rfl rfl rfl (by kernel_rfl) (fun _ _ _ h => h) (y_ld (Says.own .head) Tryz.isAgg35 rfl (Nat.zero_add _).symm rfl) (.keep .nil) (Fz.le.refl _) ?_
  refine dT 2 rfl rfl rfl (by kernel_rfl) (fun _ _ _ h => h) (y_mv rfl) (.keep .nil) (Fz.le.refl _) ?_
  refine dT 3 rfl rfl rfl (by kernel_rfl) (fun _ _ _ h => h) (y_mv rfl) (.keep .nil) (Fz.le.refl _) ?_
  refine dE 4 (by kernel_rfl) rfl ?_
  have hbd9 : x.length ≤ 1000000000000 := hxl
  refine apn (news := bytesOf x) Tryz.underlying22 I5 rfl rfl (src_bytes Tryz.underlying22 hx rfl) (by omega) (by unfold maxLen; omega) rfl (fun a9 c9 N9 r9 => ?_)
  refine frL r9 .head (fun H2 hle2 hz => ?_)
  have hbq := BytesAt.row hz r9 (by unfold B47; omega)
  refine dN (.keep .nil) hle2 ?_
  refine dT 5 rfl rfl rfl (by kernel_rfl) (fun _ _ _ h => h) (y_bd S69 rfl rfl) (.keep .nil) hle2 ?_
  refine dE 6 (by kernel_rfl) rfl ?_
  refine bs' L35 rfl rfl rfl rfl (fun b_1 => ?_)
  refine dN (.skip (.keep .nil)) hle2 ?_
  refine dE 7 (by kernel_rfl) rfl ?_
  refine ap (k := 1) (news := gcf ((⟨a9, c9⟩ : GC), (k, x))) Tryz.underlying35 I69 rfl rfl hr (fun _ => (.tail (.tail .head))) (src_says Tryz.underlying35 rfl (fun _ => Says.own .head) (gcf_one _)) (by omega) (by unfold maxLen; omega) rfl (fun a12 c12 N12 r12 z12 => ?_)
  refine dN (.skip (.keep .nil)) hle2 ?_
  refine dT 8 rfl rfl rfl (by kernel_rfl) (fun _ _ _ h => h) (y_fa0 F37_4 rfl) (.skip (.keep .nil)) hle2 ?_
  refine dE 9 (by kernel_rfl) rfl ?_
  refine st Tryz.sizeOf35 rfl rfl rfl rfl (.tail .head) ?_
  refine dNk (by kernel_rfl) ?_
  refine dD (by kernel_rfl) ?_
  refine drN .head ?_
  exact fun _ _ hA hw => rn rfl hle2 ⟨_, _, _, ⟨a9, c9⟩, rfl, r12, ⟨hbq, h0, h1⟩⟩ hA hw
theorem tc_98 {H : Fz} {L : Own} {tb : Nat} {c0 c1 c2 c3 : Value} {a va : Option Addr} {m cap vc : Nat} {xs : List Value} {k : Int} {x : List UInt8} {N : Chunk} (hr : Row 69 2 a m cap xs N) (hm : m ≤ 1000000000000) (hx : BytesAt H va vc x) (hxl : x.length ≤ 1000000000000) (h0 : 0 ≤ k) (h1 : k < 4294967296) :
    Fn Tryz.prog 98 [.int .u32 k, .slice va x.length vc, .pointer (some ⟨tb, 0, none⟩)] H ([(tb, .cells [c0, c1, c2, c3, .slice a m cap].toArray 37 (0, 0))] :: N :: L) (fun _ H' L' => ∃ a' cap' N' g, L' = [(tb, .cells [c0, c1, c2, c3, .slice a' (m + 1) cap'].toArray 37 (0, 0))] :: N' :: L ∧ Row 69 2 a' (m + 1) cap' (xs ++ gcf (g, (k, x))) N' ∧ TagAt H' g (k, x)) := by
  refine Fn.mk Tryz.call98 Tryz.func98 rfl Tryz.ntmps98 rfl ?_
  refine rgD 9 (.keep .nil) mixed ?_
  refine dT 0 rfl rfl rfl (by kernel_rfl) (fun _ _ _ h => h) (y_fa0 F37_4 rfl) (.keep .nil) (Fz.le.refl _) ?_
  refine dT 1 rfl rfl rfl (by kernel_rfl) (fun _ _ _ h => h) (y_ld (Says.own .head) Tryz.isAgg35 rfl (Nat.zero_add _).symm rfl) (.keep .nil) (Fz.le.refl _) ?_
  refine dT 2 rfl rfl rfl (by kernel_rfl) (fun _ _ _ h => h) (y_mv rfl) (.keep .nil) (Fz.le.refl _) ?_
  refine dT 3 rfl rfl rfl (by kernel_rfl) (fun _ _ _ h => h) (y_mv rfl) (.keep .nil) (Fz.le.refl _) ?_
  refine dE 4 (by kernel_rfl) rfl ?_
  have hbd9 : x.length ≤ 1000000000000 := hxl
  refine apn (news := bytesOf x) Tryz.underlying22 I5 rfl rfl (src_bytes Tryz.underlying22 hx rfl) (by omega) (by unfold maxLen; omega) rfl (fun a9 c9 N9 r9 => ?_)
  refine frL r9 .head (fun H2 hle2 hz => ?_)
  have hbq := BytesAt.row hz r9 (by unfold B47; omega)
  refine dN (.keep .nil) hle2 ?_
  refine dT 5 rfl rfl rfl (by kernel_rfl) (fun _ _ _ h => h) (y_bd S69 rfl rfl) (.keep .nil) hle2 ?_
  refine dE 6 (by kernel_rfl) rfl ?_
  refine bs' L35 rfl rfl rfl rfl (fun b_1 => ?_)
  refine dN (.skip (.keep .nil)) hle2 ?_
  refine dE 7 (by kernel_rfl) rfl ?_
  refine ap (k := 1) (news := gcf ((⟨a9, c9⟩ : GC), (k, x))) Tryz.underlying35 I69 rfl rfl hr (fun _ => (.tail (.tail .head))) (src_says Tryz.underlying35 rfl (fun _ => Says.own .head) (gcf_one _)) (by omega) (by unfold maxLen; omega) rfl (fun a12 c12 N12 r12 z12 => ?_)
  refine dN (.skip (.keep .nil)) hle2 ?_
  refine dT 8 rfl rfl rfl (by kernel_rfl) (fun _ _ _ h => h) (y_fa0 F37_4 rfl) (.skip (.keep .nil)) hle2 ?_
  refine dE 9 (by kernel_rfl) rfl ?_
  refine st Tryz.sizeOf35 rfl rfl rfl rfl (.tail .head) ?_
  refine dNk (by kernel_rfl) ?_
  refine dD (by kernel_rfl) ?_
  refine drN .head ?_
  exact fun _ _ hA hw => rn rfl hle2 ⟨_, _, _, ⟨a9, c9⟩, rfl, r12, ⟨hbq, h0, h1⟩⟩ hA hw
theorem tc_104 {H : Fz} {L : Own} {tb : Nat} {c0 c1 c2 c3 : Value} {a va : Option Addr} {m cap vc : Nat} {xs : List Value} {k : Int} {x : List UInt8} {N : Chunk} (hr : Row 69 2 a m cap xs N) (hm : m ≤ 1000000000000) (hx : BytesAt H va vc x) (hxl : x.length ≤ 1000000000000) (h0 : 0 ≤ k) (h1 : k < 4294967296) :
    Fn Tryz.prog 104 [.int .u32 k, .slice va x.length vc, .pointer (some ⟨tb, 0, none⟩)] H ([(tb, .cells [c0, c1, c2, c3, .slice a m cap].toArray 37 (0, 0))] :: N :: L) (fun _ H' L' => ∃ a' cap' N' g, L' = [(tb, .cells [c0, c1, c2, c3, .slice a' (m + 1) cap'].toArray 37 (0, 0))] :: N' :: L ∧ Row 69 2 a' (m + 1) cap' (xs ++ gcf (g, (k, x))) N' ∧ TagAt H' g (k, x)) := by
  refine Fn.mk Tryz.call104 Tryz.func104 rfl Tryz.ntmps104 rfl ?_
  refine rgD 9 (.keep .nil) mixed ?_
  refine dT 0 rfl rfl rfl (by kernel_rfl) (fun _ _ _ h => h) (y_fa0 F37_4 rfl) (.keep .nil) (Fz.le.refl _) ?_
  refine dT 1 rfl rfl rfl (by kernel_rfl) (fun _ _ _ h => h) (y_ld (Says.own .head) Tryz.isAgg35 rfl (Nat.zero_add _).symm rfl) (.keep .nil) (Fz.le.refl _) ?_
  refine dT 2 rfl rfl rfl (by kernel_rfl) (fun _ _ _ h => h) (y_mv rfl) (.keep .nil) (Fz.le.refl _) ?_
  refine dT 3 rfl rfl rfl (by kernel_rfl) (fun _ _ _ h => h) (y_mv rfl) (.keep .nil) (Fz.le.refl _) ?_
  refine dE 4 (by kernel_rfl) rfl ?_
  have hbd9 : x.length ≤ 1000000000000 := hxl
  refine apn (news := bytesOf x) Tryz.underlying22 I5 rfl rfl (src_bytes Tryz.underlying22 hx rfl) (by omega) (by unfold maxLen; omega) rfl (fun a9 c9 N9 r9 => ?_)
  refine frL r9 .head (fun H2 hle2 hz => ?_)
  have hbq := BytesAt.row hz r9 (by unfold B47; omega)
  refine dN (.keep .nil) hle2 ?_
  refine dT 5 rfl rfl rfl (by kernel_rfl) (fun _ _ _ h => h) (y_bd S69 rfl rfl) (.keep .nil) hle2 ?_
  refine dE 6 (by kernel_rfl) rfl ?_
  refine bs' L35 rfl rfl rfl rfl (fun b_1 => ?_)
  refine dN (.skip (.keep .nil)) hle2 ?_
  refine dE 7 (by kernel_rfl) rfl ?_
  refine ap (k := 1) (news := gcf ((⟨a9, c9⟩ : GC), (k, x))) Tryz.underlying35 I69 rfl rfl hr (fun _ => (.tail (.tail .head))) (src_says Tryz.underlying35 rfl (fun _ => Says.own .head) (gcf_one _)) (by omega) (by unfold maxLen; omega) rfl (fun a12 c12 N12 r12 z12 => ?_)
  refine dN (.skip (.keep .nil)) hle2 ?_
  refine dT 8 rfl rfl rfl (by kernel_rfl) (fun _ _ _ h => h) (y_fa0 F37_4 rfl) (.skip (.keep .nil)) hle2 ?_
  refine dE 9 (by kernel_rfl) rfl ?_
  refine st Tryz.sizeOf35 rfl rfl rfl rfl (.tail .head) ?_
  refine dNk (by kernel_rfl) ?_
  refine dD (by kernel_rfl) ?_
  refine drN .head ?_
  exact fun _ _ hA hw => rn rfl hle2 ⟨_, _, _, ⟨a9, c9⟩, rfl, r12, ⟨hbq, h0, h1⟩⟩ hA hw
theorem tc_117 {H : Fz} {L : Own} {tb : Nat} {c0 c1 c2 c3 : Value} {a va : Option Addr} {m cap vc : Nat} {xs : List Value} {k : Int} {x : List UInt8} {N : Chunk} (hr : Row 69 2 a m cap xs N) (hm : m ≤ 1000000000000) (hx : BytesAt H va vc x) (hxl : x.length ≤ 1000000000000) (h0 : 0 ≤ k) (h1 : k < 4294967296) :
    Fn Tryz.prog 117 [.int .u32 k, .slice va x.length vc, .pointer (some ⟨tb, 0, none⟩)] H ([(tb, .cells [c0, c1, c2, c3, .slice a m cap].toArray 37 (0, 0))] :: N :: L) (fun _ H' L' => ∃ a' cap' N' g, L' = [(tb, .cells [c0, c1, c2, c3, .slice a' (m + 1) cap'].toArray 37 (0, 0))] :: N' :: L ∧ Row 69 2 a' (m + 1) cap' (xs ++ gcf (g, (k, x))) N' ∧ TagAt H' g (k, x)) := by
  refine Fn.mk Tryz.call117 Tryz.func117 rfl Tryz.ntmps117 rfl ?_
  refine rgD 9 (.keep .nil) mixed ?_
  refine dT 0 rfl rfl rfl (by kernel_rfl) (fun _ _ _ h => h) (y_fa0 F37_4 rfl) (.keep .nil) (Fz.le.refl _) ?_
  refine dT 1 rfl rfl rfl (by kernel_rfl) (fun _ _ _ h => h) (y_ld (Says.own .head) Tryz.isAgg35 rfl (Nat.zero_add _).symm rfl) (.keep .nil) (Fz.le.refl _) ?_
  refine dT 2 rfl rfl rfl (by kernel_rfl) (fun _ _ _ h => h) (y_mv rfl) (.keep .nil) (Fz.le.refl _) ?_
  refine dT 3 rfl rfl rfl (by kernel_rfl) (fun _ _ _ h => h) (y_mv rfl) (.keep .nil) (Fz.le.refl _) ?_
  refine dE 4 (by kernel_rfl) rfl ?_
  have hbd9 : x.length ≤ 1000000000000 := hxl
  refine apn (news := bytesOf x) Tryz.underlying22 I5 rfl rfl (src_bytes Tryz.underlying22 hx rfl) (by omega) (by unfold maxLen; omega) rfl (fun a9 c9 N9 r9 => ?_)
  refine frL r9 .head (fun H2 hle2 hz => ?_)
  have hbq := BytesAt.row hz r9 (by unfold B47; omega)
  refine dN (.keep .nil) hle2 ?_
  refine dT 5 rfl rfl rfl (by kernel_rfl) (fun _ _ _ h => h) (y_bd S69 rfl rfl) (.keep .nil) hle2 ?_
  refine dE 6 (by kernel_rfl) rfl ?_
  refine bs' L35 rfl rfl rfl rfl (fun b_1 => ?_)
  refine dN (.skip (.keep .nil)) hle2 ?_
  refine dE 7 (by kernel_rfl) rfl ?_
  refine ap (k := 1) (news := gcf ((⟨a9, c9⟩ : GC), (k, x))) Tryz.underlying35 I69 rfl rfl hr (fun _ => (.tail (.tail .head))) (src_says Tryz.underlying35 rfl (fun _ => Says.own .head) (gcf_one _)) (by omega) (by unfold maxLen; omega) rfl (fun a12 c12 N12 r12 z12 => ?_)
  refine dN (.skip (.keep .nil)) hle2 ?_
  refine dT 8 rfl rfl rfl (by kernel_rfl) (fun _ _ _ h => h) (y_fa0 F37_4 rfl) (.skip (.keep .nil)) hle2 ?_
  refine dE 9 (by kernel_rfl) rfl ?_
  refine st Tryz.sizeOf35 rfl rfl rfl rfl (.tail .head) ?_
  refine dNk (by kernel_rfl) ?_
  refine dD (by kernel_rfl) ?_
  refine drN .head ?_
  exact fun _ _ hA hw => rn rfl hle2 ⟨_, _, _, ⟨a9, c9⟩, rfl, r12, ⟨hbq, h0, h1⟩⟩ hA hw
theorem tc_125 {H : Fz} {L : Own} {tb : Nat} {c0 c1 c2 c3 : Value} {a va : Option Addr} {m cap vc : Nat} {xs : List Value} {k : Int} {x : List UInt8} {N : Chunk} (hr : Row 69 2 a m cap xs N) (hm : m ≤ 1000000000000) (hx : BytesAt H va vc x) (hxl : x.length ≤ 1000000000000) (h0 : 0 ≤ k) (h1 : k < 4294967296) :
    Fn Tryz.prog 125 [.int .u32 k, .slice va x.length vc, .pointer (some ⟨tb, 0, none⟩)] H ([(tb, .cells [c0, c1, c2, c3, .slice a m cap].toArray 37 (0, 0))] :: N :: L) (fun _ H' L' => ∃ a' cap' N' g, L' = [(tb, .cells [c0, c1, c2, c3, .slice a' (m + 1) cap'].toArray 37 (0, 0))] :: N' :: L ∧ Row 69 2 a' (m + 1) cap' (xs ++ gcf (g, (k, x))) N' ∧ TagAt H' g (k, x)) := by
  refine Fn.mk Tryz.call125 Tryz.func125 rfl Tryz.ntmps125 rfl ?_
  refine rgD 9 (.keep .nil) mixed ?_
  refine dT 0 rfl rfl rfl (by kernel_rfl) (fun _ _ _ h => h) (y_fa0 F37_4 rfl) (.keep .nil) (Fz.le.refl _) ?_
  refine dT 1 rfl rfl rfl (by kernel_rfl) (fun _ _ _ h => h) (y_ld (Says.own .head) Tryz.isAgg35 rfl (Nat.zero_add _).symm rfl) (.keep .nil) (Fz.le.refl _) ?_
  refine dT 2 rfl rfl rfl (by kernel_rfl) (fun _ _ _ h => h) (y_mv rfl) (.keep .nil) (Fz.le.refl _) ?_
  refine dT 3 rfl rfl rfl (by kernel_rfl) (fun _ _ _ h => h) (y_mv rfl) (.keep .nil) (Fz.le.refl _) ?_
  refine dE 4 (by kernel_rfl) rfl ?_
  have hbd9 : x.length ≤ 1000000000000 := hxl
  refine apn (news := bytesOf x) Tryz.underlying22 I5 rfl rfl (src_bytes Tryz.underlying22 hx rfl) (by omega) (by unfold maxLen; omega) rfl (fun a9 c9 N9 r9 => ?_)
  refine frL r9 .head (fun H2 hle2 hz => ?_)
  have hbq := BytesAt.row hz r9 (by unfold B47; omega)
  refine dN (.keep .nil) hle2 ?_
  refine dT 5 rfl rfl rfl (by kernel_rfl) (fun _ _ _ h => h) (y_bd S69 rfl rfl) (.keep .nil) hle2 ?_
  refine dE 6 (by kernel_rfl) rfl ?_
  refine bs' L35 rfl rfl rfl rfl (fun b_1 => ?_)
  refine dN (.skip (.keep .nil)) hle2 ?_
  refine dE 7 (by kernel_rfl) rfl ?_
  refine ap (k := 1) (news := gcf ((⟨a9, c9⟩ : GC), (k, x))) Tryz.underlying35 I69 rfl rfl hr (fun _ => (.tail (.tail .head))) (src_says Tryz.underlying35 rfl (fun _ => Says.own .head) (gcf_one _)) (by omega) (by unfold maxLen; omega) rfl (fun a12 c12 N12 r12 z12 => ?_)
  refine dN (.skip (.keep .nil)) hle2 ?_
  refine dT 8 rfl rfl rfl (by kernel_rfl) (fun _ _ _ h => h) (y_fa0 F37_4 rfl) (.skip (.keep .nil)) hle2 ?_
  refine dE 9 (by kernel_rfl) rfl ?_
  refine st Tryz.sizeOf35 rfl rfl rfl rfl (.tail .head) ?_
  refine dNk (by kernel_rfl) ?_
  refine dD (by kernel_rfl) ?_
  refine drN .head ?_
  exact fun _ _ hA hw => rn rfl hle2 ⟨_, _, _, ⟨a9, c9⟩, rfl, r12, ⟨hbq, h0, h1⟩⟩ hA hw
theorem tc_132 {H : Fz} {L : Own} {tb : Nat} {c0 c1 c2 c3 : Value} {a va : Option Addr} {m cap vc : Nat} {xs : List Value} {k : Int} {x : List UInt8} {N : Chunk} (hr : Row 69 2 a m cap xs N) (hm : m ≤ 1000000000000) (hx : BytesAt H va vc x) (hxl : x.length ≤ 1000000000000) (h0 : 0 ≤ k) (h1 : k < 4294967296) :
    Fn Tryz.prog 132 [.int .u32 k, .slice va x.length vc, .pointer (some ⟨tb, 0, none⟩)] H ([(tb, .cells [c0, c1, c2, c3, .slice a m cap].toArray 37 (0, 0))] :: N :: L) (fun _ H' L' => ∃ a' cap' N' g, L' = [(tb, .cells [c0, c1, c2, c3, .slice a' (m + 1) cap'].toArray 37 (0, 0))] :: N' :: L ∧ Row 69 2 a' (m + 1) cap' (xs ++ gcf (g, (k, x))) N' ∧ TagAt H' g (k, x)) := by
  refine Fn.mk Tryz.call132 Tryz.func132 rfl Tryz.ntmps132 rfl ?_
  refine rgD 9 (.keep .nil) mixed ?_
  refine dT 0 rfl rfl rfl (by kernel_rfl) (fun _ _ _ h => h) (y_fa0 F37_4 rfl) (.keep .nil) (Fz.le.refl _) ?_
  refine dT 1 rfl rfl rfl (by kernel_rfl) (fun _ _ _ h => h) (y_ld (Says.own .head) Tryz.isAgg35 rfl (Nat.zero_add _).symm rfl) (.keep .nil) (Fz.le.refl _) ?_
  refine dT 2 rfl rfl rfl (by kernel_rfl) (fun _ _ _ h => h) (y_mv rfl) (.keep .nil) (Fz.le.refl _) ?_
  refine dT 3 rfl rfl rfl (by kernel_rfl) (fun _ _ _ h => h) (y_mv rfl) (.keep .nil) (Fz.le.refl _) ?_
  refine dE 4 (by kernel_rfl) rfl ?_
  have hbd9 : x.length ≤ 1000000000000 := hxl
  refine apn (news := bytesOf x) Tryz.underlying22 I5 rfl rfl (src_bytes Tryz.underlying22 hx rfl) (by omega) (by unfold maxLen; omega) rfl (fun a9 c9 N9 r9 => ?_)
  refine frL r9 .head (fun H2 hle2 hz => ?_)
  have hbq := BytesAt.row hz r9 (by unfold B47; omega)
  refine dN (.keep .nil) hle2 ?_
  refine dT 5 rfl rfl rfl (by kernel_rfl) (fun _ _ _ h => h) (y_bd S69 rfl rfl) (.keep .nil) hle2 ?_
  refine dE 6 (by kernel_rfl) rfl ?_
  refine bs' L35 rfl rfl rfl rfl (fun b_1 => ?_)
  refine dN (.skip (.keep .nil)) hle2 ?_
  refine dE 7 (by kernel_rfl) rfl ?_
  refine ap (k := 1) (news := gcf ((⟨a9, c9⟩ : GC), (k, x))) Tryz.underlying35 I69 rfl rfl hr (fun _ => (.tail (.tail .head))) (src_says Tryz.underlying35 rfl (fun _ => Says.own .head) (gcf_one _)) (by omega) (by unfold maxLen; omega) rfl (fun a12 c12 N12 r12 z12 => ?_)
  refine dN (.skip (.keep .nil)) hle2 ?_
  refine dT 8 rfl rfl rfl (by kernel_rfl) (fun _ _ _ h => h) (y_fa0 F37_4 rfl) (.skip (.keep .nil)) hle2 ?_
  refine dE 9 (by kernel_rfl) rfl ?_
  refine st Tryz.sizeOf35 rfl rfl rfl rfl (.tail .head) ?_
  refine dNk (by kernel_rfl) ?_
  refine dD (by kernel_rfl) ?_
  refine drN .head ?_
  exact fun _ _ hA hw => rn rfl hle2 ⟨_, _, _, ⟨a9, c9⟩, rfl, r12, ⟨hbq, h0, h1⟩⟩ hA hw
theorem tc_137 {H : Fz} {L : Own} {tb : Nat} {c0 c1 c2 c3 : Value} {a va : Option Addr} {m cap vc : Nat} {xs : List Value} {k : Int} {x : List UInt8} {N : Chunk} (hr : Row 69 2 a m cap xs N) (hm : m ≤ 1000000000000) (hx : BytesAt H va vc x) (hxl : x.length ≤ 1000000000000) (h0 : 0 ≤ k) (h1 : k < 4294967296) :
    Fn Tryz.prog 137 [.int .u32 k, .slice va x.length vc, .pointer (some ⟨tb, 0, none⟩)] H ([(tb, .cells [c0, c1, c2, c3, .slice a m cap].toArray 37 (0, 0))] :: N :: L) (fun _ H' L' => ∃ a' cap' N' g, L' = [(tb, .cells [c0, c1, c2, c3, .slice a' (m + 1) cap'].toArray 37 (0, 0))] :: N' :: L ∧ Row 69 2 a' (m + 1) cap' (xs ++ gcf (g, (k, x))) N' ∧ TagAt H' g (k, x)) := by
  refine Fn.mk Tryz.call137 Tryz.func137 rfl Tryz.ntmps137 rfl ?_
  refine rgD 9 (.keep .nil) mixed ?_
  refine dT 0 rfl rfl rfl (by kernel_rfl) (fun _ _ _ h => h) (y_fa0 F37_4 rfl) (.keep .nil) (Fz.le.refl _) ?_
  refine dT 1 rfl rfl rfl (by kernel_rfl) (fun _ _ _ h => h) (y_ld (Says.own .head) Tryz.isAgg35 rfl (Nat.zero_add _).symm rfl) (.keep .nil) (Fz.le.refl _) ?_
  refine dT 2 rfl rfl rfl (by kernel_rfl) (fun _ _ _ h => h) (y_mv rfl) (.keep .nil) (Fz.le.refl _) ?_
  refine dT 3 rfl rfl rfl (by kernel_rfl) (fun _ _ _ h => h) (y_mv rfl) (.keep .nil) (Fz.le.refl _) ?_
  refine dE 4 (by kernel_rfl) rfl ?_
  have hbd9 : x.length ≤ 1000000000000 := hxl
  refine apn (news := bytesOf x) Tryz.underlying22 I5 rfl rfl (src_bytes Tryz.underlying22 hx rfl) (by omega) (by unfold maxLen; omega) rfl (fun a9 c9 N9 r9 => ?_)
  refine frL r9 .head (fun H2 hle2 hz => ?_)
  have hbq := BytesAt.row hz r9 (by unfold B47; omega)
  refine dN (.keep .nil) hle2 ?_
  refine dT 5 rfl rfl rfl (by kernel_rfl) (fun _ _ _ h => h) (y_bd S69 rfl rfl) (.keep .nil) hle2 ?_
  refine dE 6 (by kernel_rfl) rfl ?_
  refine bs' L35 rfl rfl rfl rfl (fun b_1 => ?_)
  refine dN (.skip (.keep .nil)) hle2 ?_
  refine dE 7 (by kernel_rfl) rfl ?_
  refine ap (k := 1) (news := gcf ((⟨a9, c9⟩ : GC), (k, x))) Tryz.underlying35 I69 rfl rfl hr (fun _ => (.tail (.tail .head))) (src_says Tryz.underlying35 rfl (fun _ => Says.own .head) (gcf_one _)) (by omega) (by unfold maxLen; omega) rfl (fun a12 c12 N12 r12 z12 => ?_)
  refine dN (.skip (.keep .nil)) hle2 ?_
  refine dT 8 rfl rfl rfl (by kernel_rfl) (fun _ _ _ h => h) (y_fa0 F37_4 rfl) (.skip (.keep .nil)) hle2 ?_
  refine dE 9 (by kernel_rfl) rfl ?_
  refine st Tryz.sizeOf35 rfl rfl rfl rfl (.tail .head) ?_
  refine dNk (by kernel_rfl) ?_
  refine dD (by kernel_rfl) ?_
  refine drN .head ?_
  exact fun _ _ hA hw => rn rfl hle2 ⟨_, _, _, ⟨a9, c9⟩, rfl, r12, ⟨hbq, h0, h1⟩⟩ hA hw
theorem tc_142 {H : Fz} {L : Own} {tb : Nat} {c0 c1 c2 c3 : Value} {a va : Option Addr} {m cap vc : Nat} {xs : List Value} {k : Int} {x : List UInt8} {N : Chunk} (hr : Row 69 2 a m cap xs N) (hm : m ≤ 1000000000000) (hx : BytesAt H va vc x) (hxl : x.length ≤ 1000000000000) (h0 : 0 ≤ k) (h1 : k < 4294967296) :
    Fn Tryz.prog 142 [.int .u32 k, .slice va x.length vc, .pointer (some ⟨tb, 0, none⟩)] H ([(tb, .cells [c0, c1, c2, c3, .slice a m cap].toArray 37 (0, 0))] :: N :: L) (fun _ H' L' => ∃ a' cap' N' g, L' = [(tb, .cells [c0, c1, c2, c3, .slice a' (m + 1) cap'].toArray 37 (0, 0))] :: N' :: L ∧ Row 69 2 a' (m + 1) cap' (xs ++ gcf (g, (k, x))) N' ∧ TagAt H' g (k, x)) := by
  refine Fn.mk Tryz.call142 Tryz.func142 rfl Tryz.ntmps142 rfl ?_
  refine rgD 9 (.keep .nil) mixed ?_
  refine dT 0 rfl rfl rfl (by kernel_rfl) (fun _ _ _ h => h) (y_fa0 F37_4 rfl) (.keep .nil) (Fz.le.refl _) ?_
  refine dT 1 rfl rfl rfl (by kernel_rfl) (fun _ _ _ h => h) (y_ld (Says.own .head) Tryz.isAgg35 rfl (Nat.zero_add _).symm rfl) (.keep .nil) (Fz.le.refl _) ?_
  refine dT 2 rfl rfl rfl (by kernel_rfl) (fun _ _ _ h => h) (y_mv rfl) (.keep .nil) (Fz.le.refl _) ?_
  refine dT 3 rfl rfl rfl (by kernel_rfl) (fun _ _ _ h => h) (y_mv rfl) (.keep .nil) (Fz.le.refl _) ?_
  refine dE 4 (by kernel_rfl) rfl ?_
  have hbd9 : x.length ≤ 1000000000000 := hxl
  refine apn (news := bytesOf x) Tryz.underlying22 I5 rfl rfl (src_bytes Tryz.underlying22 hx rfl) (by omega) (by unfold maxLen; omega) rfl (fun a9 c9 N9 r9 => ?_)
  refine frL r9 .head (fun H2 hle2 hz => ?_)
  have hbq := BytesAt.row hz r9 (by unfold B47; omega)
  refine dN (.keep .nil) hle2 ?_
  refine dT 5 rfl rfl rfl (by kernel_rfl) (fun _ _ _ h => h) (y_bd S69 rfl rfl) (.keep .nil) hle2 ?_
  refine dE 6 (by kernel_rfl) rfl ?_
  refine bs' L35 rfl rfl rfl rfl (fun b_1 => ?_)
  refine dN (.skip (.keep .nil)) hle2 ?_
  refine dE 7 (by kernel_rfl) rfl ?_
  refine ap (k := 1) (news := gcf ((⟨a9, c9⟩ : GC), (k, x))) Tryz.underlying35 I69 rfl rfl hr (fun _ => (.tail (.tail .head))) (src_says Tryz.underlying35 rfl (fun _ => Says.own .head) (gcf_one _)) (by omega) (by unfold maxLen; omega) rfl (fun a12 c12 N12 r12 z12 => ?_)
  refine dN (.skip (.keep .nil)) hle2 ?_
  refine dT 8 rfl rfl rfl (by kernel_rfl) (fun _ _ _ h => h) (y_fa0 F37_4 rfl) (.skip (.keep .nil)) hle2 ?_
  refine dE 9 (by kernel_rfl) rfl ?_
  refine st Tryz.sizeOf35 rfl rfl rfl rfl (.tail .head) ?_
  refine dNk (by kernel_rfl) ?_
  refine dD (by kernel_rfl) ?_
  refine drN .head ?_
  exact fun _ _ hA hw => rn rfl hle2 ⟨_, _, _, ⟨a9, c9⟩, rfl, r12, ⟨hbq, h0, h1⟩⟩ hA hw
theorem tc_154 {H : Fz} {L : Own} {tb : Nat} {c0 c1 c2 c3 : Value} {a va : Option Addr} {m cap vc : Nat} {xs : List Value} {k : Int} {x : List UInt8} {N : Chunk} (hr : Row 69 2 a m cap xs N) (hm : m ≤ 1000000000000) (hx : BytesAt H va vc x) (hxl : x.length ≤ 1000000000000) (h0 : 0 ≤ k) (h1 : k < 4294967296) :
    Fn Tryz.prog 154 [.int .u32 k, .slice va x.length vc, .pointer (some ⟨tb, 0, none⟩)] H ([(tb, .cells [c0, c1, c2, c3, .slice a m cap].toArray 37 (0, 0))] :: N :: L) (fun _ H' L' => ∃ a' cap' N' g, L' = [(tb, .cells [c0, c1, c2, c3, .slice a' (m + 1) cap'].toArray 37 (0, 0))] :: N' :: L ∧ Row 69 2 a' (m + 1) cap' (xs ++ gcf (g, (k, x))) N' ∧ TagAt H' g (k, x)) := by
  refine Fn.mk Tryz.call154 Tryz.func154 rfl Tryz.ntmps154 rfl ?_
  refine rgD 9 (.keep .nil) mixed ?_
  refine dT 0 rfl rfl rfl (by kernel_rfl) (fun _ _ _ h => h) (y_fa0 F37_4 rfl) (.keep .nil) (Fz.le.refl _) ?_
  refine dT 1 rfl rfl rfl (by kernel_rfl) (fun _ _ _ h => h) (y_ld (Says.own .head) Tryz.isAgg35 rfl (Nat.zero_add _).symm rfl) (.keep .nil) (Fz.le.refl _) ?_
  refine dT 2 rfl rfl rfl (by kernel_rfl) (fun _ _ _ h => h) (y_mv rfl) (.keep .nil) (Fz.le.refl _) ?_
  refine dT 3 rfl rfl rfl (by kernel_rfl) (fun _ _ _ h => h) (y_mv rfl) (.keep .nil) (Fz.le.refl _) ?_
  refine dE 4 (by kernel_rfl) rfl ?_
  have hbd9 : x.length ≤ 1000000000000 := hxl
  refine apn (news := bytesOf x) Tryz.underlying22 I5 rfl rfl (src_bytes Tryz.underlying22 hx rfl) (by omega) (by unfold maxLen; omega) rfl (fun a9 c9 N9 r9 => ?_)
  refine frL r9 .head (fun H2 hle2 hz => ?_)
  have hbq := BytesAt.row hz r9 (by unfold B47; omega)
  refine dN (.keep .nil) hle2 ?_
  refine dT 5 rfl rfl rfl (by kernel_rfl) (fun _ _ _ h => h) (y_bd S69 rfl rfl) (.keep .nil) hle2 ?_
  refine dE 6 (by kernel_rfl) rfl ?_
  refine bs' L35 rfl rfl rfl rfl (fun b_1 => ?_)
  refine dN (.skip (.keep .nil)) hle2 ?_
  refine dE 7 (by kernel_rfl) rfl ?_
  refine ap (k := 1) (news := gcf ((⟨a9, c9⟩ : GC), (k, x))) Tryz.underlying35 I69 rfl rfl hr (fun _ => (.tail (.tail .head))) (src_says Tryz.underlying35 rfl (fun _ => Says.own .head) (gcf_one _)) (by omega) (by unfold maxLen; omega) rfl (fun a12 c12 N12 r12 z12 => ?_)
  refine dN (.skip (.keep .nil)) hle2 ?_
  refine dT 8 rfl rfl rfl (by kernel_rfl) (fun _ _ _ h => h) (y_fa0 F37_4 rfl) (.skip (.keep .nil)) hle2 ?_
  refine dE 9 (by kernel_rfl) rfl ?_
  refine st Tryz.sizeOf35 rfl rfl rfl rfl (.tail .head) ?_
  refine dNk (by kernel_rfl) ?_
  refine dD (by kernel_rfl) ?_
  refine drN .head ?_
  exact fun _ _ hA hw => rn rfl hle2 ⟨_, _, _, ⟨a9, c9⟩, rfl, r12, ⟨hbq, h0, h1⟩⟩ hA hw
theorem tc_155 {H : Fz} {L : Own} {tb : Nat} {c0 c1 c2 c3 : Value} {a va : Option Addr} {m cap vc : Nat} {xs : List Value} {k : Int} {x : List UInt8} {N : Chunk} (hr : Row 69 2 a m cap xs N) (hm : m ≤ 1000000000000) (hx : BytesAt H va vc x) (hxl : x.length ≤ 1000000000000) (h0 : 0 ≤ k) (h1 : k < 4294967296) :
    Fn Tryz.prog 155 [.int .u32 k, .slice va x.length vc, .pointer (some ⟨tb, 0, none⟩)] H ([(tb, .cells [c0, c1, c2, c3, .slice a m cap].toArray 37 (0, 0))] :: N :: L) (fun _ H' L' => ∃ a' cap' N' g, L' = [(tb, .cells [c0, c1, c2, c3, .slice a' (m + 1) cap'].toArray 37 (0, 0))] :: N' :: L ∧ Row 69 2 a' (m + 1) cap' (xs ++ gcf (g, (k, x))) N' ∧ TagAt H' g (k, x)) := by
  refine Fn.mk Tryz.call155 Tryz.func155 rfl Tryz.ntmps155 rfl ?_
  refine rgD 9 (.keep .nil) mixed ?_
  refine dT 0 rfl rfl rfl (by kernel_rfl) (fun _ _ _ h => h) (y_fa0 F37_4 rfl) (.keep .nil) (Fz.le.refl _) ?_
  refine dT 1 rfl rfl rfl (by kernel_rfl) (fun _ _ _ h => h) (y_ld (Says.own .head) Tryz.isAgg35 rfl (Nat.zero_add _).symm rfl) (.keep .nil) (Fz.le.refl _) ?_
  refine dT 2 rfl rfl rfl (by kernel_rfl) (fun _ _ _ h => h) (y_mv rfl) (.keep .nil) (Fz.le.refl _) ?_
  refine dT 3 rfl rfl rfl (by kernel_rfl) (fun _ _ _ h => h) (y_mv rfl) (.keep .nil) (Fz.le.refl _) ?_
  refine dE 4 (by kernel_rfl) rfl ?_
  have hbd9 : x.length ≤ 1000000000000 := hxl
  refine apn (news := bytesOf x) Tryz.underlying22 I5 rfl rfl (src_bytes Tryz.underlying22 hx rfl) (by omega) (by unfold maxLen; omega) rfl (fun a9 c9 N9 r9 => ?_)
  refine frL r9 .head (fun H2 hle2 hz => ?_)
  have hbq := BytesAt.row hz r9 (by unfold B47; omega)
  refine dN (.keep .nil) hle2 ?_
  refine dT 5 rfl rfl rfl (by kernel_rfl) (fun _ _ _ h => h) (y_bd S69 rfl rfl) (.keep .nil) hle2 ?_
  refine dE 6 (by kernel_rfl) rfl ?_
  refine bs' L35 rfl rfl rfl rfl (fun b_1 => ?_)
  refine dN (.skip (.keep .nil)) hle2 ?_
  refine dE 7 (by kernel_rfl) rfl ?_
  refine ap (k := 1) (news := gcf ((⟨a9, c9⟩ : GC), (k, x))) Tryz.underlying35 I69 rfl rfl hr (fun _ => (.tail (.tail .head))) (src_says Tryz.underlying35 rfl (fun _ => Says.own .head) (gcf_one _)) (by omega) (by unfold maxLen; omega) rfl (fun a12 c12 N12 r12 z12 => ?_)
  refine dN (.skip (.keep .nil)) hle2 ?_
  refine dT 8 rfl rfl rfl (by kernel_rfl) (fun _ _ _ h => h) (y_fa0 F37_4 rfl) (.skip (.keep .nil)) hle2 ?_
  refine dE 9 (by kernel_rfl) rfl ?_
  refine st Tryz.sizeOf35 rfl rfl rfl rfl (.tail .head) ?_
  refine dNk (by kernel_rfl) ?_
  refine dD (by kernel_rfl) ?_
  refine drN .head ?_
  exact fun _ _ hA hw => rn rfl hle2 ⟨_, _, _, ⟨a9, c9⟩, rfl, r12, ⟨hbq, h0, h1⟩⟩ hA hw
theorem tc_156 {H : Fz} {L : Own} {tb : Nat} {c0 c1 c2 c3 : Value} {a va : Option Addr} {m cap vc : Nat} {xs : List Value} {k : Int} {x : List UInt8} {N : Chunk} (hr : Row 69 2 a m cap xs N) (hm : m ≤ 1000000000000) (hx : BytesAt H va vc x) (hxl : x.length ≤ 1000000000000) (h0 : 0 ≤ k) (h1 : k < 4294967296) :
    Fn Tryz.prog 156 [.int .u32 k, .slice va x.length vc, .pointer (some ⟨tb, 0, none⟩)] H ([(tb, .cells [c0, c1, c2, c3, .slice a m cap].toArray 37 (0, 0))] :: N :: L) (fun _ H' L' => ∃ a' cap' N' g, L' = [(tb, .cells [c0, c1, c2, c3, .slice a' (m + 1) cap'].toArray 37 (0, 0))] :: N' :: L ∧ Row 69 2 a' (m + 1) cap' (xs ++ gcf (g, (k, x))) N' ∧ TagAt H' g (k, x)) := by
  refine Fn.mk Tryz.call156 Tryz.func156 rfl Tryz.ntmps156 rfl ?_
  refine rgD 9 (.keep .nil) mixed ?_
  refine dT 0 rfl rfl rfl (by kernel_rfl) (fun _ _ _ h => h) (y_fa0 F37_4 rfl) (.keep .nil) (Fz.le.refl _) ?_
  refine dT 1 rfl rfl rfl (by kernel_rfl) (fun _ _ _ h => h) (y_ld (Says.own .head) Tryz.isAgg35 rfl (Nat.zero_add _).symm rfl) (.keep .nil) (Fz.le.refl _) ?_
  refine dT 2 rfl rfl rfl (by kernel_rfl) (fun _ _ _ h => h) (y_mv rfl) (.keep .nil) (Fz.le.refl _) ?_
  refine dT 3 rfl rfl rfl (by kernel_rfl) (fun _ _ _ h => h) (y_mv rfl) (.keep .nil) (Fz.le.refl _) ?_
  refine dE 4 (by kernel_rfl) rfl ?_
  have hbd9 : x.length ≤ 1000000000000 := hxl
  refine apn (news := bytesOf x) Tryz.underlying22 I5 rfl rfl (src_bytes Tryz.underlying22 hx rfl) (by omega) (by unfold maxLen; omega) rfl (fun a9 c9 N9 r9 => ?_)
  refine frL r9 .head (fun H2 hle2 hz => ?_)
  have hbq := BytesAt.row hz r9 (by unfold B47; omega)
  refine dN (.keep .nil) hle2 ?_
  refine dT 5 rfl rfl rfl (by kernel_rfl) (fun _ _ _ h => h) (y_bd S69 rfl rfl) (.keep .nil) hle2 ?_
  refine dE 6 (by kernel_rfl) rfl ?_
  refine bs' L35 rfl rfl rfl rfl (fun b_1 => ?_)
  refine dN (.skip (.keep .nil)) hle2 ?_
  refine dE 7 (by kernel_rfl) rfl ?_
  refine ap (k := 1) (news := gcf ((⟨a9, c9⟩ : GC), (k, x))) Tryz.underlying35 I69 rfl rfl hr (fun _ => (.tail (.tail .head))) (src_says Tryz.underlying35 rfl (fun _ => Says.own .head) (gcf_one _)) (by omega) (by unfold maxLen; omega) rfl (fun a12 c12 N12 r12 z12 => ?_)
  refine dN (.skip (.keep .nil)) hle2 ?_
  refine dT 8 rfl rfl rfl (by kernel_rfl) (fun _ _ _ h => h) (y_fa0 F37_4 rfl) (.skip (.keep .nil)) hle2 ?_
  refine dE 9 (by kernel_rfl) rfl ?_
  refine st Tryz.sizeOf35 rfl rfl rfl rfl (.tail .head) ?_
  refine dNk (by kernel_rfl) ?_
  refine dD (by kernel_rfl) ?_
  refine drN .head ?_
  exact fun _ _ hA hw => rn rfl hle2 ⟨_, _, _, ⟨a9, c9⟩, rfl, r12, ⟨hbq, h0, h1⟩⟩ hA hw
end Go.Sx

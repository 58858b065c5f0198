import Derived.Test.YthegbjcccjpbcaaGreatDoorSxTab
import Derived.Test.YthegbjcccjpbcaaGreatDoorRK2
import Derived.Test.YthegbjcccjpbcaaGreatDoorLibI
import Derived.KernelRfl
set_option linter.unusedVariables false
set_option linter.unusedSimpArgs false
set_option maxRecDepth 100000
set_option maxHeartbeats 20000000
namespace Go.Sx
open Go.Proofs
theorem k_boolTree {H : Fz} {L : Own} {p : Bool} :
  Fn Tryz.prog 69 [.bool p] H L (fun v H' L' => H = H' ∧ L = L' ∧ v = .agg (TC.none.cells (.mk (if p then 1 else 0) [] false [] [])).toArray) := by
 refine Fn.mk Tryz.call69 Tryz.func69 rfl Tryz.ntmps69 rfl ?_
 refine sr ?_
 refine al Tryz.zeroValue37 rfl rfl (fun b_1 => ?_)
 refine nl ?_
 refine sq ?_
 refine sr ?_
 refine mv rfl rfl ?_
 refine nl ?_
 refine cb rfl (fun h3 => ?_) (fun h3 => ?_)
 ·
  refine sr ?_
  refine bd' S37 rfl rfl rfl ?_
  refine sa Tryz.sizeOf37 rfl rfl rfl rfl rfl .head ?_
  refine nl ?_
  exact rC rfl Tryz.isAgg37 Tryz.sizeOf37 rfl .head rfl ler (fun _ _ h => h) ⟨rfl, rfl, by rw [h3]; rfl⟩
 ·
  refine skt ?_
  refine sr ?_
  refine bd' S37 rfl rfl rfl ?_
  refine sa Tryz.sizeOf37 rfl rfl rfl rfl rfl .head ?_
  refine nl ?_
  exact rC rfl Tryz.isAgg37 Tryz.sizeOf37 rfl .head rfl ler (fun _ _ h => h) ⟨rfl, rfl, by rw [h3]; rfl⟩
theorem k_textTree {H : Fz} {L : Own} {p : Option Addr} {T : Tr} (hT : TextAt H T p) (hf : Fits T) :
  Fn Tryz.prog 35 [.pointer p] H L (fun v H' L' => L = L' ∧ ∃ c : TC, v = .agg (c.cells (.mk 0 (sT T) T.nul [] [])).toArray ∧ TreeAt H' c (.mk 0 (sT T) T.nul [] [])) := by
 refine Fn.mk Tryz.call35 Tryz.func35 rfl Tryz.ntmps35 rfl ?_
 refine sr ?_
 refine al Tryz.zeroValue37 rfl rfl (fun b_1 => ?_)
 refine nl ?_
 refine sq ?_
 refine sr ?_
 refine mv rfl rfl ?_
 refine epn Tryz.underlying72 rfl rfl ?_
 refine nl ?_
 refine cb rfl (fun h4 => ?_) (fun h4 => ?_)
 ·
  have hnu : T.nul = true := hT.nul.symm.trans h4
  have hs : sT T = [] := by unfold sT; rw [hnu]; rfl
  refine sr ?_
  refine bd' S37 rfl rfl rfl ?_
  refine sa Tryz.sizeOf37 rfl rfl rfl rfl rfl .head ?_
  refine nl ?_
  exact rC rfl Tryz.isAgg37 Tryz.sizeOf37 rfl .head rfl ler (fun _ _ h => h) ⟨rfl, TC.none, by rw [hs, hnu]; rfl, by rw [hs]; exact .of (.nil _) (.nil _) (.nil _)⟩
 ·
  have hnu : T.nul = false := hT.nul.symm.trans h4
  have hs : sT T = T.s := sT_nn hnu
  obtain ⟨ad, rfl⟩ : ∃ ad, p = some ad := by
   cases p with
   | none => cases h4
   | some ad => exact ⟨ad, rfl⟩
  obtain ⟨b, rfl, hb⟩ := hT.val _ rfl
  refine skt ?_
  refine sr ?_
  refine mv rfl rfl ?_
  refine nc rfl rfl ?_
  refine ld (j := 0) (Says.fz hb) Tryz.isAgg9 rfl rfl rfl rfl ?_
  refine csb Tryz.underlying9 Tryz.underlying22 Tryz.underlying5 rfl (by have := hf.s; unfold B47; omega) rfl (fun Hb9 b9 cp9 le_2 hb9 => ?_)
  refine bd' S37 rfl rfl rfl ?_
  refine sa Tryz.sizeOf37 rfl rfl rfl rfl rfl .head ?_
  refine nl ?_
  exact rC rfl Tryz.isAgg37 Tryz.sizeOf37 rfl .head rfl le_2 (fun _ _ h => h) ⟨rfl, ⟨some ⟨b9, 0, none⟩, cp9, none, 0, none, 0⟩, by rw [hs, hnu]; rfl, by rw [hs]; exact .of hb9 (.nil _) (.nil _)⟩
theorem k_sorted {H : Fz} {L : Own} {a : Option Addr} {c : Nat} {us : List (Int × List UInt8)} (hu : TagsAt H a c us) (hr : (us.map (·.1)).Pairwise (· ≤ ·)) :
  Fn Tryz.prog 39 [.slice a us.length c] H L (fun _ H' L' => H = H' ∧ L = L') := by
 have hul := hu.len
 refine Fn.mk Tryz.call39 Tryz.func39 rfl Tryz.ntmps39 rfl ?_
 refine sr ?_
 refine mv rfl rfl ?_
 refine ls Tryz.runUnderlying35 rfl rfl ?_
 refine mv rfl rfl ?_
 refine nl ?_
 refine fr (us.length) (fun k l' H' L' => [(0, .slice a us.length c), (5, .int .i64 (us.length : Int))] = l' ∧ L = L' ∧ H = H') [(0, .slice a us.length c), (5, .int .i64 (us.length : Int))] (fun k l' H' L' h => ?_) (by omega) rfl (.of ⟨rfl, rfl, trivial⟩) ⟨rfl, rfl, rfl⟩ rfl rfl rfl rfl rfl (fun k l' H' L' hk le_1 hI => ?_) (fun l' H' L' le_2 hI => ?_)
 · obtain ⟨rfl, _⟩ := h; exact ⟨rfl, rfl, rfl, rfl⟩
 ·
  obtain ⟨rfl, rfl, pk0⟩ := hI
  subst pk0
  refine sr ?_
  refine mv rfl rfl ?_
  refine asg rfl rfl ?_
  refine nl ?_
  refine sr ?_
  refine mv rfl rfl ?_
  refine asg rfl rfl ?_
  refine nl ?_
  refine bl (lp 0 (fun i l' H' L' => [(0, .slice a us.length c), (3, .int .i64 (k : Int)), (5, .int .i64 (us.length : Int)), (6, .int .i64 (k : Int))] = l' ∧ H = H' ∧ L = L') [(0, .slice a us.length c), (3, .int .i64 (k : Int)), (5, .int .i64 (us.length : Int)), (6, .int .i64 (k : Int))] (.of ⟨rfl, rfl, rfl, rfl, trivial⟩) ⟨rfl, rfl, rfl⟩ (fun i l' H' L' hi_ le_3 hI => ?_))
  obtain ⟨rfl, rfl, rfl⟩ := hI
  refine sq ?_
  refine sq ?_
  refine rgD 16 .nil mixed ?_
  refine dU 0 rfl rfl rfl (y_mv rfl) .nil ler ?_
  refine dU 1 rfl rfl rfl (y_gt rfl rfl) .nil ler ?_
  refine dU 2 rfl rfl rfl (y_mv rfl) .nil ler ?_
  refine splH (t := 12) rfl (fun h12 => ?_) (fun h12 => ?_)
  ·
   refine dU 3 rfl rfl rfl (y_gr rfl rfl (y_mv rfl)) .nil ler ?_
   refine dU 4 rfl rfl rfl (y_gr rfl rfl (y_mv rfl)) .nil ler ?_
   obtain ⟨b_4, o_5, e_6, g_7⟩ := hu.at_ (ne_nil_of_lt hk)
   obtain ⟨c_8, q_9, q_10⟩ := g_7 k hk
   refine dU 5 rfl rfl rfl (y_gr rfl rfl (y_ixk (j := k) Tryz.runUnderlying35 Tryz.sizeOf69 rfl e_6 rfl (by omega) hk)) .nil ler ?_
   refine dU 6 rfl rfl rfl (y_gr rfl rfl (y_fa F69_0 rfl)) .nil ler ?_
   refine dU 7 rfl rfl rfl (y_gr rfl rfl (y_ld (j := 0) (Says.fz q_9) Tryz.isAgg64 rfl (Nat.add_zero _).symm rfl)) .nil ler ?_
   refine dU 8 rfl rfl rfl (y_gr rfl rfl (y_mv rfl)) .nil ler ?_
   refine dU 9 rfl rfl rfl (y_gr rfl rfl (y_mv rfl)) .nil ler ?_
   have hk1 : k - 1 < us.length := by omega
   refine dU 10 rfl rfl rfl (y_gr rfl rfl (y_sb rfl rfl (w64 (by omega) (by omega)))) .nil ler ?_
   obtain ⟨b_11, o_12, e_13, g_14⟩ := hu.at_ (ne_nil_of_lt hk)
   obtain ⟨c_15, q_16, q_17⟩ := g_14 (k - 1) hk1
   refine dU 11 rfl rfl rfl (y_gr rfl rfl (y_ixk (j := (k - 1)) Tryz.runUnderlying35 Tryz.sizeOf69 rfl e_13 rfl (by omega) hk1)) .nil ler ?_
   refine dU 12 rfl rfl rfl (y_gr rfl rfl (y_fa F69_0 rfl)) .nil ler ?_
   refine dU 13 rfl rfl rfl (y_gr rfl rfl (y_ld (j := 0) (Says.fz q_16) Tryz.isAgg64 rfl (Nat.add_zero _).symm rfl)) .nil ler ?_
   refine dU 14 rfl rfl rfl (y_gr rfl rfl (y_lt rfl rfl)) .nil ler ?_
   refine dU 15 rfl rfl rfl (y_pk rfl rfl rfl) .nil ler ?_
   refine dD (by kernel_rfl) ?_
   refine Nt ?_
   refine cF (by show some (Value.bool (decide _)) = some (.bool false); rw [decide_eq_false (by have := rise_get hr (show k - 1 < k by omega) hk; omega)]) ?_
   refine exX ?_
   refine XT ?_
   refine XT ?_
   refine Xb ?_
   refine Nb ?_
   refine fun a_ w_ hA hw => ⟨_, _, _, hA.sub ?_, le_1, hw, _, rfl, rfl, rfl, rfl⟩
   exact (.of ⟨rfl, rfl, rfl, trivial⟩)
  ·
   refine dU 3 rfl rfl rfl (y_gs rfl rfl rfl) .nil ler ?_
   refine dU 4 rfl rfl rfl (y_gs rfl rfl rfl) .nil ler ?_
   refine dU 5 rfl rfl rfl (y_gs rfl rfl rfl) .nil ler ?_
   refine dU 6 rfl rfl rfl (y_gs rfl rfl rfl) .nil ler ?_
   refine dU 7 rfl rfl rfl (y_gs rfl rfl rfl) .nil ler ?_
   refine dU 8 rfl rfl rfl (y_gs rfl rfl rfl) .nil ler ?_
   refine dU 9 rfl rfl rfl (y_gs rfl rfl rfl) .nil ler ?_
   refine dU 10 rfl rfl rfl (y_gs rfl rfl rfl) .nil ler ?_
   refine dU 11 rfl rfl rfl (y_gs rfl rfl rfl) .nil ler ?_
   refine dU 12 rfl rfl rfl (y_gs rfl rfl rfl) .nil ler ?_
   refine dU 13 rfl rfl rfl (y_gs rfl rfl rfl) .nil ler ?_
   refine dU 14 rfl rfl rfl (y_gs rfl rfl rfl) .nil ler ?_
   refine dU 15 rfl rfl rfl (y_pk rfl rfl rfl) .nil ler ?_
   refine dD (by kernel_rfl) ?_
   refine Nt ?_
   refine cF (by rfl) ?_
   refine exX ?_
   refine XT ?_
   refine XT ?_
   refine Xb ?_
   refine Nb ?_
   refine fun a_ w_ hA hw => ⟨_, _, _, hA.sub ?_, le_1, hw, _, rfl, rfl, rfl, rfl⟩
   exact (.of ⟨rfl, rfl, rfl, trivial⟩)
 ·
  obtain ⟨rfl, rfl, pk0⟩ := hI
  refine toNn ?_
  subst pk0
  exact fun _ _ hA hw => rn rfl le_2 ⟨rfl, rfl⟩ hA hw
theorem tc_38 {H : Fz} {L : Own} {tb : Nat} {c0 c1 c2 c3 : Value} {a va : Option Addr} {m cap vc : Nat} {xs : List Value} {k : Int} {x : List UInt8} {N : Chunk} (hr : Row 69 2 a m cap xs N) (hm : m ≤ 1000000000000) (hx : BytesAt H va vc x) (hxl : x.length ≤ 1000000000000) (h0 : 0 ≤ k) (h1 : k < 4294967296) :
  Fn Tryz.prog 38 [.int .u32 k, .slice va x.length vc, .pointer (some ⟨tb, 0, none⟩)] H ([(tb, .cells [c0, c1, c2, c3, .slice a m cap].toArray 37 (0, 0))] :: N :: L) (fun _ H' L' => ∃ a' cap' N' g, L' = [(tb, .cells [c0, c1, c2, c3, .slice a' (m + 1) cap'].toArray 37 (0, 0))] :: N' :: L ∧ Row 69 2 a' (m + 1) cap' (xs ++ gcf (g, (k, x))) N' ∧ TagAt H' g (k, x)) := by
 refine Fn.mk Tryz.call38 Tryz.func38 rfl Tryz.ntmps38 rfl ?_
 refine rgD 9 kp1 mixed ?_
 refine dU 0 rfl rfl rfl (y_fa0 F37_4 rfl) kp1 ler ?_
 refine dU 1 rfl rfl rfl (y_ld (Says.own .head) Tryz.isAgg35 rfl (Nat.zero_add _).symm rfl) kp1 ler ?_
 refine dU 2 rfl rfl rfl (y_mv rfl) kp1 ler ?_
 refine dU 3 rfl rfl rfl (y_mv rfl) kp1 ler ?_
 refine dE 4 (by kernel_rfl) rfl ?_
 have hbd9 : x.length ≤ 1000000000000 := hxl
 refine apn (news := bytesOf x) Tryz.underlying22 I5 rfl rfl (src_bytes Tryz.underlying22 hx rfl) (by omega) (by unfold maxLen; omega) rfl (fun a9 c9 N9 r9 => ?_)
 refine frL r9 .head (fun H2 hle2 hz => ?_)
 have hbq := BytesAt.row hz r9 (by unfold B47; omega)
 refine dN kp1 hle2 ?_
 refine dU 5 rfl rfl rfl (y_bd S69 rfl rfl) kp1 hle2 ?_
 refine dE 6 (by kernel_rfl) rfl ?_
 refine bs' L35 rfl rfl rfl rfl (fun b_1 => ?_)
 refine dN (.skip (.keep .nil)) hle2 ?_
 refine dE 7 (by kernel_rfl) rfl ?_
 refine ap (k := 1) (news := gcf ((⟨a9, c9⟩ : GC), (k, x))) Tryz.underlying35 I69 rfl rfl hr (fun _ => (.tail (.tail .head))) (src_says Tryz.underlying35 rfl (fun _ => Says.own .head) (gcf_one _)) (by omega) (by unfold maxLen; omega) rfl (fun a12 c12 N12 r12 z12 => ?_)
 refine dN (.skip (.keep .nil)) hle2 ?_
 refine dU 8 rfl rfl rfl (y_fa0 F37_4 rfl) (.skip (.keep .nil)) hle2 ?_
 refine dE 9 (by kernel_rfl) rfl ?_
 refine st Tryz.sizeOf35 rfl rfl rfl rfl (.tail .head) ?_
 refine dNk (by kernel_rfl) ?_
 refine dD (by kernel_rfl) ?_
 refine drN .head ?_
 exact fun _ _ hA hw => rn rfl hle2 ⟨_, _, _, ⟨a9, c9⟩, rfl, r12, ⟨hbq, h0, h1⟩⟩ hA hw
theorem tc_68 {H : Fz} {L : Own} {tb : Nat} {c0 c1 c2 c3 : Value} {a va : Option Addr} {m cap vc : Nat} {xs : List Value} {k : Int} {x : List UInt8} {N : Chunk} (hr : Row 69 2 a m cap xs N) (hm : m ≤ 1000000000000) (hx : BytesAt H va vc x) (hxl : x.length ≤ 1000000000000) (h0 : 0 ≤ k) (h1 : k < 4294967296) :
  Fn Tryz.prog 68 [.int .u32 k, .slice va x.length vc, .pointer (some ⟨tb, 0, none⟩)] H ([(tb, .cells [c0, c1, c2, c3, .slice a m cap].toArray 37 (0, 0))] :: N :: L) (fun _ H' L' => ∃ a' cap' N' g, L' = [(tb, .cells [c0, c1, c2, c3, .slice a' (m + 1) cap'].toArray 37 (0, 0))] :: N' :: L ∧ Row 69 2 a' (m + 1) cap' (xs ++ gcf (g, (k, x))) N' ∧ TagAt H' g (k, x)) := by
 refine Fn.mk Tryz.call68 Tryz.func68 rfl Tryz.ntmps68 rfl ?_
 refine rgD 9 kp1 mixed ?_
 refine dU 0 rfl rfl rfl (y_fa0 F37_4 rfl) kp1 ler ?_
 refine dU 1 rfl rfl rfl (y_ld (Says.own .head) Tryz.isAgg35 rfl (Nat.zero_add _).symm rfl) kp1 ler ?_
 refine dU 2 rfl rfl rfl (y_mv rfl) kp1 ler ?_
 refine dU 3 rfl rfl rfl (y_mv rfl) kp1 ler ?_
 refine dE 4 (by kernel_rfl) rfl ?_
 have hbd9 : x.length ≤ 1000000000000 := hxl
 refine apn (news := bytesOf x) Tryz.underlying22 I5 rfl rfl (src_bytes Tryz.underlying22 hx rfl) (by omega) (by unfold maxLen; omega) rfl (fun a9 c9 N9 r9 => ?_)
 refine frL r9 .head (fun H2 hle2 hz => ?_)
 have hbq := BytesAt.row hz r9 (by unfold B47; omega)
 refine dN kp1 hle2 ?_
 refine dU 5 rfl rfl rfl (y_bd S69 rfl rfl) kp1 hle2 ?_
 refine dE 6 (by kernel_rfl) rfl ?_
 refine bs' L35 rfl rfl rfl rfl (fun b_1 => ?_)
 refine dN (.skip (.keep .nil)) hle2 ?_
 refine dE 7 (by kernel_rfl) rfl ?_
 refine ap (k := 1) (news := gcf ((⟨a9, c9⟩ : GC), (k, x))) Tryz.underlying35 I69 rfl rfl hr (fun _ => (.tail (.tail .head))) (src_says Tryz.underlying35 rfl (fun _ => Says.own .head) (gcf_one _)) (by omega) (by unfold maxLen; omega) rfl (fun a12 c12 N12 r12 z12 => ?_)
 refine dN (.skip (.keep .nil)) hle2 ?_
 refine dU 8 rfl rfl rfl (y_fa0 F37_4 rfl) (.skip (.keep .nil)) hle2 ?_
 refine dE 9 (by kernel_rfl) rfl ?_
 refine st Tryz.sizeOf35 rfl rfl rfl rfl (.tail .head) ?_
 refine dNk (by kernel_rfl) ?_
 refine dD (by kernel_rfl) ?_
 refine drN .head ?_
 exact fun _ _ hA hw => rn rfl hle2 ⟨_, _, _, ⟨a9, c9⟩, rfl, r12, ⟨hbq, h0, h1⟩⟩ hA hw
theorem tc_71 {H : Fz} {L : Own} {tb : Nat} {c0 c1 c2 c3 : Value} {a va : Option Addr} {m cap vc : Nat} {xs : List Value} {k : Int} {x : List UInt8} {N : Chunk} (hr : Row 69 2 a m cap xs N) (hm : m ≤ 1000000000000) (hx : BytesAt H va vc x) (hxl : x.length ≤ 1000000000000) (h0 : 0 ≤ k) (h1 : k < 4294967296) :
  Fn Tryz.prog 71 [.int .u32 k, .slice va x.length vc, .pointer (some ⟨tb, 0, none⟩)] H ([(tb, .cells [c0, c1, c2, c3, .slice a m cap].toArray 37 (0, 0))] :: N :: L) (fun _ H' L' => ∃ a' cap' N' g, L' = [(tb, .cells [c0, c1, c2, c3, .slice a' (m + 1) cap'].toArray 37 (0, 0))] :: N' :: L ∧ Row 69 2 a' (m + 1) cap' (xs ++ gcf (g, (k, x))) N' ∧ TagAt H' g (k, x)) := by
 refine Fn.mk Tryz.call71 Tryz.func71 rfl Tryz.ntmps71 rfl ?_
 refine rgD 9 kp1 mixed ?_
 refine dU 0 rfl rfl rfl (y_fa0 F37_4 rfl) kp1 ler ?_
 refine dU 1 rfl rfl rfl (y_ld (Says.own .head) Tryz.isAgg35 rfl (Nat.zero_add _).symm rfl) kp1 ler ?_
 refine dU 2 rfl rfl rfl (y_mv rfl) kp1 ler ?_
 refine dU 3 rfl rfl rfl (y_mv rfl) kp1 ler ?_
 refine dE 4 (by kernel_rfl) rfl ?_
 have hbd9 : x.length ≤ 1000000000000 := hxl
 refine apn (news := bytesOf x) Tryz.underlying22 I5 rfl rfl (src_bytes Tryz.underlying22 hx rfl) (by omega) (by unfold maxLen; omega) rfl (fun a9 c9 N9 r9 => ?_)
 refine frL r9 .head (fun H2 hle2 hz => ?_)
 have hbq := BytesAt.row hz r9 (by unfold B47; omega)
 refine dN kp1 hle2 ?_
 refine dU 5 rfl rfl rfl (y_bd S69 rfl rfl) kp1 hle2 ?_
 refine dE 6 (by kernel_rfl) rfl ?_
 refine bs' L35 rfl rfl rfl rfl (fun b_1 => ?_)
 refine dN (.skip (.keep .nil)) hle2 ?_
 refine dE 7 (by kernel_rfl) rfl ?_
 refine ap (k := 1) (news := gcf ((⟨a9, c9⟩ : GC), (k, x))) Tryz.underlying35 I69 rfl rfl hr (fun _ => (.tail (.tail .head))) (src_says Tryz.underlying35 rfl (fun _ => Says.own .head) (gcf_one _)) (by omega) (by unfold maxLen; omega) rfl (fun a12 c12 N12 r12 z12 => ?_)
 refine dN (.skip (.keep .nil)) hle2 ?_
 refine dU 8 rfl rfl rfl (y_fa0 F37_4 rfl) (.skip (.keep .nil)) hle2 ?_
 refine dE 9 (by kernel_rfl) rfl ?_
 refine st Tryz.sizeOf35 rfl rfl rfl rfl (.tail .head) ?_
 refine dNk (by kernel_rfl) ?_
 refine dD (by kernel_rfl) ?_
 refine drN .head ?_
 exact fun _ _ hA hw => rn rfl hle2 ⟨_, _, _, ⟨a9, c9⟩, rfl, r12, ⟨hbq, h0, h1⟩⟩ hA hw
theorem tc_82 {H : Fz} {L : Own} {tb : Nat} {c0 c1 c2 c3 : Value} {a va : Option Addr} {m cap vc : Nat} {xs : List Value} {k : Int} {x : List UInt8} {N : Chunk} (hr : Row 69 2 a m cap xs N) (hm : m ≤ 1000000000000) (hx : BytesAt H va vc x) (hxl : x.length ≤ 1000000000000) (h0 : 0 ≤ k) (h1 : k < 4294967296) :
  Fn Tryz.prog 82 [.int .u32 k, .slice va x.length vc, .pointer (some ⟨tb, 0, none⟩)] H ([(tb, .cells [c0, c1, c2, c3, .slice a m cap].toArray 37 (0, 0))] :: N :: L) (fun _ H' L' => ∃ a' cap' N' g, L' = [(tb, .cells [c0, c1, c2, c3, .slice a' (m + 1) cap'].toArray 37 (0, 0))] :: N' :: L ∧ Row 69 2 a' (m + 1) cap' (xs ++ gcf (g, (k, x))) N' ∧ TagAt H' g (k, x)) := by
 refine Fn.mk Tryz.call82 Tryz.func82 rfl Tryz.ntmps82 rfl ?_
 refine rgD 9 kp1 mixed ?_
 refine dU 0 rfl rfl rfl (y_fa0 F37_4 rfl) kp1 ler ?_
 refine dU 1 rfl rfl rfl (y_ld (Says.own .head) Tryz.isAgg35 rfl (Nat.zero_add _).symm rfl) kp1 ler ?_
 refine dU 2 rfl rfl rfl (y_mv rfl) kp1 ler ?_
 refine dU 3 rfl rfl rfl (y_mv rfl) kp1 ler ?_
 refine dE 4 (by kernel_rfl) rfl ?_
 have hbd9 : x.length ≤ 1000000000000 := hxl
 refine apn (news := bytesOf x) Tryz.underlying22 I5 rfl rfl (src_bytes Tryz.underlying22 hx rfl) (by omega) (by unfold maxLen; omega) rfl (fun a9 c9 N9 r9 => ?_)
 refine frL r9 .head (fun H2 hle2 hz => ?_)
 have hbq := BytesAt.row hz r9 (by unfold B47; omega)
 refine dN kp1 hle2 ?_
 refine dU 5 rfl rfl rfl (y_bd S69 rfl rfl) kp1 hle2 ?_
 refine dE 6 (by kernel_rfl) rfl ?_
 refine bs' L35 rfl rfl rfl rfl (fun b_1 => ?_)
 refine dN (.skip (.keep .nil)) hle2 ?_
 refine dE 7 (by kernel_rfl) rfl ?_
 refine ap (k := 1) (news := gcf ((⟨a9, c9⟩ : GC), (k, x))) Tryz.underlying35 I69 rfl rfl hr (fun _ => (.tail (.tail .head))) (src_says Tryz.underlying35 rfl (fun _ => Says.own .head) (gcf_one _)) (by omega) (by unfold maxLen; omega) rfl (fun a12 c12 N12 r12 z12 => ?_)
 refine dN (.skip (.keep .nil)) hle2 ?_
 refine dU 8 rfl rfl rfl (y_fa0 F37_4 rfl) (.skip (.keep .nil)) hle2 ?_
 refine dE 9 (by kernel_rfl) rfl ?_
 refine st Tryz.sizeOf35 rfl rfl rfl rfl (.tail .head) ?_
 refine dNk (by kernel_rfl) ?_
 refine dD (by kernel_rfl) ?_
 refine drN .head ?_
 exact fun _ _ hA hw => rn rfl hle2 ⟨_, _, _, ⟨a9, c9⟩, rfl, r12, ⟨hbq, h0, h1⟩⟩ hA hw
end Go.Sx

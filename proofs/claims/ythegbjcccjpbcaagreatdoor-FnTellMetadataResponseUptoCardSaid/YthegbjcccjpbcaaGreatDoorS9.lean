import Derived.Test.YthegbjcccjpbcaaGreatDoorS8
import Derived.Test.YthegbjcccjpbcaaGreatDoorTelP
import Derived.KernelRfl
set_option linter.unusedVariables false
set_option linter.unusedSimpArgs false
set_option maxRecDepth 100000
set_option maxHeartbeats 20000000
namespace Go.Sx
open Go.Proofs
theorem uslP_one {f : Fd} {x : Tr} (h : uslF f x = true) : uslP [f] (.mk 0 [] false [x] []) = true := by
 unfold uslP
 rw [uslFs, uslFs, Bool.and_true]
 exact h
theorem s_Told0 {fs : List Fd} {v : Int} {flex : Bool} (hN : ∀ f ∈ fs, f.tag < 0) (hP : ∀ f ∈ fs, TellC f v flex) (hU : ∀ f ∈ fs, UslC [f]) : ToldC fs v flex := by
 intro H L a c0 c e t g hF hT hG h
 have hlen := toldP_len h
 refine Fn.mk Tryz.call10 Tryz.func10 rfl Tryz.ntmps10 rfl ?_
 refine sr ?_
 refine bx rfl rfl rfl (fun b_1 => ?_)
 refine bx rfl rfl rfl (fun b_2 => ?_)
 refine asg rfl rfl ?_
 refine nl ?_
 refine sq ?_
 refine sr ?_
 refine fa0 F26_3 rfl rfl ?_
 refine ld (Says.own .head) Tryz.isAgg23 rfl (Nat.zero_add _).symm rfl rfl ?_
 refine ls Tryz.runUnderlying23 rfl rfl ?_
 refine mv rfl rfl ?_
 refine ls Tryz.runUnderlying29 rfl rfl ?_
 refine ne' rfl rfl rfl ?_
 refine nl ?_
 refine cdU rfl (fun h22 => ?_) (fun h22 => ?_)
 ·
  exfalso
  omega
 ·
  refine skt ?_
  refine sq ?_
  refine sr ?_
  refine mv rfl rfl ?_
  refine ls Tryz.runUnderlying29 rfl rfl ?_
  refine mv rfl rfl ?_
  refine nl ?_
  refine capL (fun F_5 hF_5 => ?_)
  refine fr (fs.length) (fun k l' H' L' => [(0, .slice a fs.length c0), (1, .int .i64 v), (2, .bool flex), (8, .pointer (some ⟨b_1, 0, none⟩)), (9, .pointer (some ⟨b_2, 0, none⟩)), (23, .slice a fs.length c0), (24, .int .i64 (fs.length : Int))] = l' ∧ F_5 = L') [(0, .slice a fs.length c0), (1, .int .i64 v), (2, .bool flex), (8, .pointer (some ⟨b_1, 0, none⟩)), (9, .pointer (some ⟨b_2, 0, none⟩)), (23, .slice a fs.length c0), (24, .int .i64 (fs.length : Int))] (fun k l' H' L' h => ?_) (by have := hF.few; omega) rfl (.of ⟨rfl, rfl, rfl, rfl, rfl, rfl, rfl, trivial⟩) ⟨rfl, rfl⟩ rfl rfl rfl rfl rfl (fun k l' H' L' hk le_3 hI => ?_) (fun l' H' L' le_4 hI => ?_)
  · obtain ⟨rfl, _⟩ := h; exact ⟨rfl, rfl, rfl, rfl⟩
  ·
   obtain ⟨rfl, rfl⟩ := hI
   subst hF_5
   have hN_ := hN _ (List.getElem_mem hk)
   have hkg : k < g.l.length := hlen.symm ▸ hk
   have hat := at_lt hkg
   refine sr ?_
   refine mv rfl rfl ?_
   obtain ⟨b_6, o_7, e_8, g_9⟩ := (hF.mono le_3).at_ (ne_nil_of_lt hk)
   obtain ⟨c_10, q_11, q_12⟩ := g_9 k hk
   refine ix2 Tryz.runUnderlying29 Tryz.sizeOf51 rfl e_8 rfl rfl hk rfl ?_
   refine la (Says.fz q_11) Tryz.isAgg51 Tryz.sizeOf51 rfl (Nat.add_zero _).symm rfl rfl ?_
   refine al Tryz.zeroValue51 rfl rfl (fun b_13 => ?_)
   refine asg rfl rfl ?_
   refine sa Tryz.sizeOf51 rfl rfl rfl rfl rfl .head ?_
   refine nl ?_
   refine sr ?_
   refine la (Says.own (.tail (.tail .head))) Tryz.isAgg26 Tryz.sizeOf26 rfl (Nat.zero_add _).symm rfl rfl ?_
   refine mv rfl rfl ?_
   refine cl rfl rfl rfl (s_at (i := k) (hT.mono le_3)) rfl (fun v_ H1 L1 hle hR => ?_)
   obtain ⟨rfl, rfl, c32, rfl, g32⟩ := hR
   refine al Tryz.zeroValue26 rfl rfl (fun b_14 => ?_)
   refine sa Tryz.sizeOf26 rfl rfl rfl rfl rfl .head ?_
   refine nl ?_
   refine sq ?_
   refine sr ?_
   refine fa0 F51_4 rfl rfl ?_
   refine ld (Says.own (.tail .head)) Tryz.isAgg3 rfl (Nat.zero_add _).symm rfl rfl ?_
   refine lt rfl rfl rfl ?_
   refine mv rfl rfl ?_
   refine spl (t := 36) rfl (fun _ => ?_) (fun hn_ => absurd (by omega) hn_)
   refine gr rfl rfl ?_
   refine la (Says.own (.tail .head)) Tryz.isAgg51 Tryz.sizeOf51 rfl (Nat.zero_add _).symm rfl rfl ?_
   refine gr rfl rfl ?_
   refine mv rfl rfl ?_
   refine gr rfl rfl ?_
   refine cl rfl rfl rfl s_has rfl (fun v_ H1 L1 hle hR => ?_)
   obtain ⟨rfl, rfl, rfl⟩ := hR
   refine pkT rfl rfl rfl rfl ?_
   refine mv rfl rfl ?_
   refine splb (t := 41) rfl (fun h41 => ?_) (fun h41 => ?_)
   ·
    refine gs rfl rfl rfl rfl ?_
    refine gs rfl rfl rfl rfl ?_
    refine gs rfl rfl rfl rfl ?_
    refine gs rfl rfl rfl rfl ?_
    refine gu rfl rfl rfl ?_
    refine gs rfl rfl rfl rfl ?_
    refine gs rfl rfl rfl rfl ?_
    refine gu rfl rfl rfl ?_
    refine gu rfl rfl rfl ?_
    refine gu rfl rfl rfl ?_
    refine gu rfl rfl rfl ?_
    refine gs rfl rfl rfl rfl ?_
    refine pkT rfl rfl rfl rfl ?_
    refine nl ?_
    refine cT rfl ?_
    refine sq ?_
    refine sq ?_
    refine rgD 11 kp4 mixed ?_
    refine dU 0 rfl rfl rfl (y_la (Says.own (.tail .head)) Tryz.isAgg51 Tryz.sizeOf51 rfl (Nat.zero_add _).symm rfl) kp4 ler ?_
    refine dU 1 rfl rfl rfl (y_mv rfl) kp4 ler ?_
    refine dU 2 rfl rfl rfl (y_mv rfl) kp4 ler ?_
    refine dU 3 rfl rfl rfl (y_la (Says.own .head) Tryz.isAgg26 Tryz.sizeOf26 rfl (Nat.zero_add _).symm rfl) kp4 ler ?_
    refine dU 4 rfl rfl rfl (y_fa0 F26_3 rfl) kp4 ler ?_
    refine dU 5 rfl rfl rfl (y_ld (Says.own (.tail (.tail .head))) Tryz.isAgg23 rfl (Nat.zero_add _).symm rfl) kp4 ler ?_
    refine dU 6 rfl rfl rfl (y_mv rfl) kp4 ler ?_
    obtain ⟨b_15, o_16, e_17, g_18⟩ := (hG.l.mono le_3).at_ (ne_nil_of_lt hkg)
    obtain ⟨c_19, q_20, q_21⟩ := g_18 k hkg
    refine dU 7 rfl rfl rfl (y_ix2 Tryz.runUnderlying23 Tryz.sizeOf26 rfl e_17 rfl rfl hkg) kp4 ler ?_
    refine dU 8 rfl rfl rfl (y_la (Says.fz q_20) Tryz.isAgg26 Tryz.sizeOf26 rfl (Nat.add_zero _).symm rfl) kp4 ler ?_
    refine dE 9 (by kernel_rfl) rfl ?_
    have hy_ := toldP_yes h hk hN_ h41
    rw [hat] at hy_
    refine cl rfl rfl rfl (hP _ (List.getElem_mem hk) q_12 g32 q_21 hy_) rfl (fun v_ H1 L1 le_22 hR => ?_)
    obtain ⟨rfl, rfl⟩ := hR
    refine dN kp4 le_22 ?_
    refine dU 10 rfl rfl rfl (y_nt rfl) kp4 le_22 ?_
    refine dD (by kernel_rfl) ?_
    refine Nt ?_
    refine cF rfl ?_
    refine skt ?_
    refine exX ?_
    refine XT ?_
    refine Xb ?_
    refine drN .head ?_
    refine drN .head ?_
    refine fun a w hA hw => ⟨_, _, _, hA.sub ?_, (le_3.trans le_22), hw, _, rfl, rfl, rfl⟩
    exact (.of ⟨rfl, rfl, rfl, rfl, rfl, rfl, rfl, rfl, trivial⟩)
   ·
    refine gr rfl rfl ?_
    refine fa0 F51_4 rfl rfl ?_
    refine gr rfl rfl ?_
    refine ld (Says.own (.tail .head)) Tryz.isAgg3 rfl (Nat.zero_add _).symm rfl rfl ?_
    refine gr rfl rfl ?_
    refine ge rfl rfl rfl ?_
    refine gr rfl rfl ?_
    refine mv rfl rfl ?_
    refine spl (t := 45) rfl (fun hn_ => absurd hn_ (by omega)) (fun _ => ?_)
    refine gs rfl rfl rfl rfl ?_
    refine gr rfl rfl ?_
    refine pkF rfl rfl rfl rfl ?_
    refine gr rfl rfl ?_
    refine mv rfl rfl ?_
    refine gs rfl rfl rfl rfl ?_
    refine gs rfl rfl rfl rfl ?_
    refine gs rfl rfl rfl rfl ?_
    refine gs rfl rfl rfl rfl ?_
    refine gr rfl rfl ?_
    refine pkF rfl rfl rfl rfl ?_
    refine pkF rfl rfl rfl rfl ?_
    refine nl ?_
    refine cF rfl ?_
    refine skt ?_
    refine sq ?_
    refine rgD 11 kp4 mixed ?_
    refine dU 0 rfl rfl rfl (y_la (Says.own (.tail .head)) Tryz.isAgg51 Tryz.sizeOf51 rfl (Nat.zero_add _).symm rfl) kp4 ler ?_
    refine dU 2 rfl rfl rfl (y_fa0 F26_3 rfl) kp4 ler ?_
    refine dU 3 rfl rfl rfl (y_ld (Says.own (.tail (.tail .head))) Tryz.isAgg23 rfl (Nat.zero_add _).symm rfl) kp4 ler ?_
    refine dU 4 rfl rfl rfl (y_mv rfl) kp4 ler ?_
    obtain ⟨b_23, o_24, e_25, g_26⟩ := (hG.l.mono le_3).at_ (ne_nil_of_lt hkg)
    obtain ⟨c_27, q_28, q_29⟩ := g_26 k hkg
    refine dU 5 rfl rfl rfl (y_ix2 Tryz.runUnderlying23 Tryz.sizeOf26 rfl e_25 rfl rfl hkg) kp4 ler ?_
    refine dU 6 rfl rfl rfl (y_la (Says.fz q_28) Tryz.isAgg26 Tryz.sizeOf26 rfl (Nat.add_zero _).symm rfl) kp4 ler ?_
    refine dE2 1 7 (by kernel_rfl) rfl rfl ?_ ?_
    ·
     refine bs' L29 rfl rfl rfl rfl (fun b_30 => ?_)
     refine dN (.skip (.keep (.keep (.keep (.keep .nil))))) ler ?_
     refine dE 7 (by kernel_rfl) rfl ?_
     refine bs' L23 rfl rfl rfl rfl (fun b_31 => ?_)
     refine dN (.skip (.skip (.keep (.keep (.keep (.keep .nil)))))) ler ?_
     refine dE 8 (by kernel_rfl) rfl ?_
     refine bd' S26 rfl rfl rfl ?_
     refine dN (.skip (.skip (.keep (.keep (.keep (.keep .nil)))))) ler ?_
     refine dE 9 (by kernel_rfl) rfl ?_
     refine frL (Row.whole (size := 8) (m := 1) rfl (by decide)) (.tail .head) (fun H7 le7 z7 => ?_)
     have q7 : H7.at b_30 0 (([(c_10, fs[k])] : List (FC × Fd)).flatMap fun p : FC × Fd => p.1.cells p.2) := by
      rcases z7 with ⟨h0, _⟩ | ⟨g_, h0, h1⟩
      · cases h0
      · cases h0; exact h1
     have f7 := FdsAt.lit [(c_10, fs[k])] q7 (Nat.le_of_ble_eq_true rfl) (by
      intro p hp
      simp only [List.mem_cons, List.not_mem_nil, or_false] at hp
      subst hp
      exact (q_12.mono le7))
     refine frL (Row.whole (size := 5) (m := 1) rfl (by decide)) .head (fun H8 le8 z8 => ?_)
     have q8 : H8.at b_31 0 (([(c_27, g.l[k])] : List EE).flatMap fun p => p.1.cells p.2) := by
      rcases z8 with ⟨h0, _⟩ | ⟨g_, h0, h1⟩
      · cases h0
      · cases h0; exact h1
     have t8 : TreesAt H8 (some ⟨b_31, 0, none⟩) 1 [g.l[k]] := by
      refine TreesAt.row (es := [(c_27, g.l[k])]) (.inr ⟨_, rfl, q8⟩) rfl (Nat.le_refl _) (Nat.le_of_ble_eq_true rfl) ?_
      intro p hp
      simp only [List.mem_cons, List.not_mem_nil, or_false] at hp
      subst hp
      exact (q_29.mono (le7.trans le8))
     have hn_ := toldP_no h hk hN_ h41
     rw [hat] at hn_
     have tt_ : TreeAt H8 ⟨none, 0, some ⟨b_31, 0, none⟩, 1, none, 0⟩ (.mk 0 [] false [g.l[k]] []) := TreeAt.of (.nil _) t8 (.nil _)
     have hu0_ : UslC [fs[k]] := hU _ (List.getElem_mem hk)
     have f8_ : FdsAt H8 (some ⟨b_30, 0, none⟩) [fs[k]] := (f7.mono le8)
     have hF_ : ∀ L9 : Own, Fn Tryz.prog 26 [.slice (some ⟨b_30, 0, none⟩) 1 1, .agg #[.int .i64 0, .slice none 0 0, .bool false, .slice (some ⟨b_31, 0, none⟩) 1 1, .slice none 0 0]] H8 L9 (fun r H2 L2 => L9 = L2 ∧ r = .bool true) := fun L9 => @hu0_ H8 L9 (some ⟨b_30, 0, none⟩) 1 ⟨none, 0, some ⟨b_31, 0, none⟩, 1, none, 0⟩ (.mk 0 [] false [g.l[k]] []) f8_ tt_ (uslP_one hn_)
     refine cl rfl rfl rfl (hF_ _) rfl (fun v_ H1 L1 le_32 hR => ?_)
     obtain ⟨rfl, rfl⟩ := hR
     refine dN kp4 (le7.trans (le8.trans le_32)) ?_
     refine dU 10 rfl rfl rfl (y_nt rfl) kp4 (le7.trans (le8.trans le_32)) ?_
     refine dD (by kernel_rfl) ?_
     refine Nt ?_
     refine cF rfl ?_
     refine skN ?_
     refine Nb ?_
     refine drN .head ?_
     refine drN .head ?_
     refine fun a w hA hw => ⟨_, _, _, hA.sub ?_, (le_3.trans (le7.trans (le8.trans le_32))), hw, _, rfl, rfl, rfl⟩
     exact (.of ⟨rfl, rfl, rfl, rfl, rfl, rfl, rfl, rfl, trivial⟩)
    ·
     refine bs' L23 rfl rfl rfl rfl (fun b_33 => ?_)
     refine dN (.skip (.keep (.keep (.keep (.keep .nil))))) ler ?_
     refine dE2 1 8 (by kernel_rfl) rfl rfl ?_ ?_
     ·
      refine bs' L29 rfl rfl rfl rfl (fun b_34 => ?_)
      refine dN (.skip (.skip (.keep (.keep (.keep (.keep .nil)))))) ler ?_
      refine dE 8 (by kernel_rfl) rfl ?_
      refine bd' S26 rfl rfl rfl ?_
      refine dN (.skip (.skip (.keep (.keep (.keep (.keep .nil)))))) ler ?_
      refine dE 9 (by kernel_rfl) rfl ?_
      refine frL (Row.whole (size := 8) (m := 1) rfl (by decide)) .head (fun H7 le7 z7 => ?_)
      have q7 : H7.at b_34 0 (([(c_10, fs[k])] : List (FC × Fd)).flatMap fun p : FC × Fd => p.1.cells p.2) := by
       rcases z7 with ⟨h0, _⟩ | ⟨g_, h0, h1⟩
       · cases h0
       · cases h0; exact h1
      have f7 := FdsAt.lit [(c_10, fs[k])] q7 (Nat.le_of_ble_eq_true rfl) (by
       intro p hp
       simp only [List.mem_cons, List.not_mem_nil, or_false] at hp
       subst hp
       exact (q_12.mono le7))
      refine frL (Row.whole (size := 5) (m := 1) rfl (by decide)) .head (fun H8 le8 z8 => ?_)
      have q8 : H8.at b_33 0 (([(c_27, g.l[k])] : List EE).flatMap fun p => p.1.cells p.2) := by
       rcases z8 with ⟨h0, _⟩ | ⟨g_, h0, h1⟩
       · cases h0
       · cases h0; exact h1
      have t8 : TreesAt H8 (some ⟨b_33, 0, none⟩) 1 [g.l[k]] := by
       refine TreesAt.row (es := [(c_27, g.l[k])]) (.inr ⟨_, rfl, q8⟩) rfl (Nat.le_refl _) (Nat.le_of_ble_eq_true rfl) ?_
       intro p hp
       simp only [List.mem_cons, List.not_mem_nil, or_false] at hp
       subst hp
       exact (q_29.mono (le7.trans le8))
      have hn_ := toldP_no h hk hN_ h41
      rw [hat] at hn_
      have tt_ : TreeAt H8 ⟨none, 0, some ⟨b_33, 0, none⟩, 1, none, 0⟩ (.mk 0 [] false [g.l[k]] []) := TreeAt.of (.nil _) t8 (.nil _)
      have hu0_ : UslC [fs[k]] := hU _ (List.getElem_mem hk)
      have f8_ : FdsAt H8 (some ⟨b_34, 0, none⟩) [fs[k]] := (f7.mono le8)
      have hF_ : ∀ L9 : Own, Fn Tryz.prog 26 [.slice (some ⟨b_34, 0, none⟩) 1 1, .agg #[.int .i64 0, .slice none 0 0, .bool false, .slice (some ⟨b_33, 0, none⟩) 1 1, .slice none 0 0]] H8 L9 (fun r H2 L2 => L9 = L2 ∧ r = .bool true) := fun L9 => @hu0_ H8 L9 (some ⟨b_34, 0, none⟩) 1 ⟨none, 0, some ⟨b_33, 0, none⟩, 1, none, 0⟩ (.mk 0 [] false [g.l[k]] []) f8_ tt_ (uslP_one hn_)
      refine cl rfl rfl rfl (hF_ _) rfl (fun v_ H1 L1 le_35 hR => ?_)
      obtain ⟨rfl, rfl⟩ := hR
      refine dN kp4 (le7.trans (le8.trans le_35)) ?_
      refine dU 10 rfl rfl rfl (y_nt rfl) kp4 (le7.trans (le8.trans le_35)) ?_
      refine dD (by kernel_rfl) ?_
      refine Nt ?_
      refine cF rfl ?_
      refine skN ?_
      refine Nb ?_
      refine drN .head ?_
      refine drN .head ?_
      refine fun a w hA hw => ⟨_, _, _, hA.sub ?_, (le_3.trans (le7.trans (le8.trans le_35))), hw, _, rfl, rfl, rfl⟩
      exact (.of ⟨rfl, rfl, rfl, rfl, rfl, rfl, rfl, rfl, trivial⟩)
     ·
      refine bd' S26 rfl rfl rfl ?_
      refine dN (.skip (.keep (.keep (.keep (.keep .nil))))) ler ?_
      refine dE 1 (by kernel_rfl) rfl ?_
      refine bs' L29 rfl rfl rfl rfl (fun b_36 => ?_)
      refine dN (.skip (.skip (.keep (.keep (.keep (.keep .nil)))))) ler ?_
      refine dE 9 (by kernel_rfl) rfl ?_
      refine frL (Row.whole (size := 8) (m := 1) rfl (by decide)) .head (fun H7 le7 z7 => ?_)
      have q7 : H7.at b_36 0 (([(c_10, fs[k])] : List (FC × Fd)).flatMap fun p : FC × Fd => p.1.cells p.2) := by
       rcases z7 with ⟨h0, _⟩ | ⟨g_, h0, h1⟩
       · cases h0
       · cases h0; exact h1
      have f7 := FdsAt.lit [(c_10, fs[k])] q7 (Nat.le_of_ble_eq_true rfl) (by
       intro p hp
       simp only [List.mem_cons, List.not_mem_nil, or_false] at hp
       subst hp
       exact (q_12.mono le7))
      refine frL (Row.whole (size := 5) (m := 1) rfl (by decide)) .head (fun H8 le8 z8 => ?_)
      have q8 : H8.at b_33 0 (([(c_27, g.l[k])] : List EE).flatMap fun p => p.1.cells p.2) := by
       rcases z8 with ⟨h0, _⟩ | ⟨g_, h0, h1⟩
       · cases h0
       · cases h0; exact h1
      have t8 : TreesAt H8 (some ⟨b_33, 0, none⟩) 1 [g.l[k]] := by
       refine TreesAt.row (es := [(c_27, g.l[k])]) (.inr ⟨_, rfl, q8⟩) rfl (Nat.le_refl _) (Nat.le_of_ble_eq_true rfl) ?_
       intro p hp
       simp only [List.mem_cons, List.not_mem_nil, or_false] at hp
       subst hp
       exact (q_29.mono (le7.trans le8))
      have hn_ := toldP_no h hk hN_ h41
      rw [hat] at hn_
      have tt_ : TreeAt H8 ⟨none, 0, some ⟨b_33, 0, none⟩, 1, none, 0⟩ (.mk 0 [] false [g.l[k]] []) := TreeAt.of (.nil _) t8 (.nil _)
      have hu0_ : UslC [fs[k]] := hU _ (List.getElem_mem hk)
      have f8_ : FdsAt H8 (some ⟨b_36, 0, none⟩) [fs[k]] := (f7.mono le8)
      have hF_ : ∀ L9 : Own, Fn Tryz.prog 26 [.slice (some ⟨b_36, 0, none⟩) 1 1, .agg #[.int .i64 0, .slice none 0 0, .bool false, .slice (some ⟨b_33, 0, none⟩) 1 1, .slice none 0 0]] H8 L9 (fun r H2 L2 => L9 = L2 ∧ r = .bool true) := fun L9 => @hu0_ H8 L9 (some ⟨b_36, 0, none⟩) 1 ⟨none, 0, some ⟨b_33, 0, none⟩, 1, none, 0⟩ (.mk 0 [] false [g.l[k]] []) f8_ tt_ (uslP_one hn_)
      refine cl rfl rfl rfl (hF_ _) rfl (fun v_ H1 L1 le_37 hR => ?_)
      obtain ⟨rfl, rfl⟩ := hR
      refine dN kp4 (le7.trans (le8.trans le_37)) ?_
      refine dU 10 rfl rfl rfl (y_nt rfl) kp4 (le7.trans (le8.trans le_37)) ?_
      refine dD (by kernel_rfl) ?_
      refine Nt ?_
      refine cF rfl ?_
      refine skN ?_
      refine Nb ?_
      refine drN .head ?_
      refine drN .head ?_
      refine fun a w hA hw => ⟨_, _, _, hA.sub ?_, (le_3.trans (le7.trans (le8.trans le_37))), hw, _, rfl, rfl, rfl⟩
      exact (.of ⟨rfl, rfl, rfl, rfl, rfl, rfl, rfl, rfl, trivial⟩)
  ·
   obtain ⟨rfl, rfl⟩ := hI
   subst hF_5
   refine toWp ?_
   refine sr ?_
   refine mv rfl rfl ?_
   refine fa0 F26_4 rfl rfl ?_
   refine ld (Says.own (.tail .head)) Tryz.isAgg24 rfl (Nat.zero_add _).symm rfl rfl ?_
   refine cl rfl rfl rfl (s_unknown (hF.mono le_4) (hT.u.mono le_4)) rfl (fun v_ H1 L1 le81 hR => ?_)
   obtain ⟨rfl, a81, cu81, rfl, gu81⟩ := hR
   have hul := unknown_len fs t.u
   refine asg rfl rfl ?_
   refine nl ?_
   refine sq ?_
   refine sr ?_
   refine mv rfl rfl ?_
   refine nt rfl rfl ?_
   refine nl ?_
   refine cbU rfl (fun h83 => ?_) (fun h83 => ?_)
   ·
    have hue : g.u = ([] : List (Int × List UInt8)).map wholeTag := by rw [toldP_u h, show flex = false by simpa using h83]; rfl
    have hul2 : g.u.length = ([] : List (Int × List UInt8)).length := by rw [hue, List.length_map]
    refine rg ?_
    refine asg rfl rfl ?_
    refine nl ?_
    refine sq ?_
    refine sr ?_
    refine fa0 F26_4 rfl rfl ?_
    refine ld (Says.own .head) Tryz.isAgg24 rfl (Nat.zero_add _).symm rfl rfl ?_
    refine ls Tryz.runUnderlying24 rfl rfl ?_
    refine mv rfl rfl ?_
    refine ls Tryz.runUnderlying24 rfl rfl ?_
    refine ne' rfl rfl rfl ?_
    refine nl ?_
    refine cdU rfl (fun h89 => ?_) (fun h89 => ?_)
    ·
     exfalso
     simp only [List.length_nil] at hul2
     omega
    ·
     refine skt ?_
     refine sq ?_
     refine sr ?_
     refine mv rfl rfl ?_
     refine ls Tryz.runUnderlying24 rfl rfl ?_
     refine mv rfl rfl ?_
     refine nl ?_
     refine capL (fun F_40 hF_40 => ?_)
     refine fr (([] : List (Int × List UInt8)).length) (fun j l' H' L' => [(9, .pointer (some ⟨b_2, 0, none⟩)), (90, .slice none ([] : List (Int × List UInt8)).length 0), (91, .int .i64 (([] : List (Int × List UInt8)).length : Int))] = l' ∧ F_40 = L') [(9, .pointer (some ⟨b_2, 0, none⟩)), (90, .slice none ([] : List (Int × List UInt8)).length 0), (91, .int .i64 (([] : List (Int × List UInt8)).length : Int))] (fun j l' H' L' h => ?_) (by have := hG.u.len; omega) rfl (.of ⟨rfl, rfl, rfl, trivial⟩) ⟨rfl, rfl⟩ rfl rfl rfl rfl rfl (fun j l' H' L' hj le_38 hI => ?_) (fun l' H' L' le_39 hI => ?_)
     · obtain ⟨rfl, _⟩ := h; exact ⟨rfl, rfl, rfl, rfl⟩
     ·
      obtain ⟨rfl, rfl⟩ := hI
      subst hF_40
      have hjg : j < g.u.length := hul2.symm ▸ hj
      have hel : g.u[j] = wholeTag ([] : List (Int × List UInt8))[j] := (List.getElem_of_eq hue hjg).trans (List.getElem_map _)
      have hkey : g.u[j].1 = ([] : List (Int × List UInt8))[j].1 := by rw [hel]; rfl
      have hval : g.u[j].2 = whole ([] : List (Int × List UInt8))[j].2 := by rw [hel]; rfl
      refine sr ?_
      refine mv rfl rfl ?_
      obtain ⟨b_41, o_42, e_43, g_44⟩ := (TagsAt.nil _).at_ (ne_nil_of_lt hj)
      obtain ⟨c_45, q_46, q_47⟩ := g_44 j hj
      refine ix2 Tryz.runUnderlying24 Tryz.sizeOf66 rfl e_43 rfl rfl hj rfl ?_
      refine la (Says.fz q_46) Tryz.isAgg66 Tryz.sizeOf66 rfl (Nat.add_zero _).symm rfl rfl ?_
      refine al Tryz.zeroValue66 rfl rfl (fun b_48 => ?_)
      refine asg rfl rfl ?_
      refine sa Tryz.sizeOf66 rfl rfl rfl rfl rfl .head ?_
      refine nl ?_
      refine sq ?_
      refine rgD 22 kp3 mixed ?_
      refine dU 0 rfl rfl rfl (y_fa0 F26_4 rfl) kp3 ler ?_
      refine dU 1 rfl rfl rfl (y_ld (Says.own (.tail .head)) Tryz.isAgg24 rfl (Nat.zero_add _).symm rfl) kp3 ler ?_
      refine dU 2 rfl rfl rfl (y_mv rfl) kp3 ler ?_
      obtain ⟨b_49, o_50, e_51, g_52⟩ := (hG.u.mono (le_4.trans (le81.trans le_38))).at_ (ne_nil_of_lt hjg)
      obtain ⟨c_53, q_54, q_55⟩ := g_52 j hjg
      refine dU 3 rfl rfl rfl (y_ix2 Tryz.runUnderlying24 Tryz.sizeOf66 rfl e_51 rfl rfl hjg) kp3 ler ?_
      refine dU 4 rfl rfl rfl (y_fa F66_0 rfl) kp3 ler ?_
      refine dU 5 rfl rfl rfl (y_ld (Says.fz q_54) Tryz.isAgg64 rfl (Nat.add_zero _).symm rfl) kp3 ler ?_
      refine dU 6 rfl rfl rfl (y_fa0 F66_0 rfl) kp3 ler ?_
      refine dU 7 rfl rfl rfl (y_ld (Says.own .head) Tryz.isAgg64 rfl (Nat.zero_add _).symm rfl) kp3 ler ?_
      refine dU 8 rfl rfl rfl (y_ne rfl rfl) kp3 ler ?_
      refine dU 9 rfl rfl rfl (y_mv rfl) kp3 ler ?_
      refine splH (t := 106) rfl (fun hn_ => absurd hkey hn_) (fun _ => ?_)
      refine dU 10 rfl rfl rfl (y_gr rfl rfl (y_fa0 F26_4 rfl)) kp3 ler ?_
      refine dU 11 rfl rfl rfl (y_gr rfl rfl (y_ld (Says.own (.tail .head)) Tryz.isAgg24 rfl (Nat.zero_add _).symm rfl)) kp3 ler ?_
      refine dU 12 rfl rfl rfl (y_gr rfl rfl (y_mv rfl)) kp3 ler ?_
      obtain ⟨b_56, o_57, e_58, g_59⟩ := (hG.u.mono (le_4.trans (le81.trans le_38))).at_ (ne_nil_of_lt hjg)
      obtain ⟨c_60, q_61, q_62⟩ := g_59 j hjg
      refine dU 13 rfl rfl rfl (y_gr rfl rfl (y_ix2 Tryz.runUnderlying24 Tryz.sizeOf66 rfl e_58 rfl rfl hjg)) kp3 ler ?_
      refine dU 14 rfl rfl rfl (y_gr rfl rfl (y_fa F66_1 rfl)) kp3 ler ?_
      refine dU 15 rfl rfl rfl (y_gr rfl rfl (y_ld (Says.fz q_61) Tryz.isAgg22 rfl rfl rfl)) kp3 ler ?_
      refine dU 16 rfl rfl rfl (y_gr rfl rfl (y_fa0 F66_1 rfl)) kp3 ler ?_
      refine dU 17 rfl rfl rfl (y_gr rfl rfl (y_ld (Says.own .head) Tryz.isAgg22 rfl (Nat.zero_add _).symm rfl)) kp3 ler ?_
      refine dE 18 (by kernel_rfl) rfl ?_
      refine gr rfl rfl ?_
      refine cl rfl rfl rfl (s_whole q_47.val rfl) rfl (fun v_ H1 L1 hle hR => ?_)
      obtain ⟨rfl, rfl, rfl⟩ := hR
      refine dN kp3 ler ?_
      refine dE 19 (by kernel_rfl) rfl ?_
      refine gr rfl rfl ?_
      refine cl rfl rfl rfl (s_same q_62.val (q_47.val.take most)) rfl (fun v_ H1 L1 hle hR => ?_)
      rw [decide_eq_true hval] at hR
      obtain ⟨rfl, rfl, rfl⟩ := hR
      refine dN kp3 ler ?_
      refine dU 20 rfl rfl rfl (y_gr rfl rfl (y_nt rfl)) kp3 ler ?_
      refine dU 21 rfl rfl rfl (y_pk rfl rfl rfl) kp3 ler ?_
      refine dD (by kernel_rfl) ?_
      refine Nt ?_
      refine cF rfl ?_
      refine skN ?_
      refine Nb ?_
      refine drN .head ?_
      refine fun a w hA hw => ⟨_, _, _, hA.sub ?_, le_38, hw, _, rfl, rfl, rfl⟩
      exact (.of ⟨rfl, rfl, rfl, rfl, trivial⟩)
     ·
      obtain ⟨rfl, rfl⟩ := hI
      subst hF_40
      refine toWp ?_
      refine sr ?_
      refine asg rfl rfl ?_
      refine nl ?_
      refine drW .head ?_
      refine drW .head ?_
      exact rT rfl rfl (le_4.trans (le81.trans le_39)) (fun _ _ h => h) ⟨rfl, rfl⟩
   ·
    have hue : g.u = (unknown fs t.u).map wholeTag := by rw [toldP_u h, show flex = true by simpa using h83]; rfl
    have hul2 : g.u.length = (unknown fs t.u).length := by rw [hue, List.length_map]
    refine skt ?_
    refine sq ?_
    refine sr ?_
    refine fa0 F26_4 rfl rfl ?_
    refine ld (Says.own .head) Tryz.isAgg24 rfl (Nat.zero_add _).symm rfl rfl ?_
    refine ls Tryz.runUnderlying24 rfl rfl ?_
    refine mv rfl rfl ?_
    refine ls Tryz.runUnderlying24 rfl rfl ?_
    refine ne' rfl rfl rfl ?_
    refine nl ?_
    refine cdU rfl (fun h89 => ?_) (fun h89 => ?_)
    ·
     exfalso
     omega
    ·
     refine skt ?_
     refine sq ?_
     refine sr ?_
     refine mv rfl rfl ?_
     refine ls Tryz.runUnderlying24 rfl rfl ?_
     refine mv rfl rfl ?_
     refine nl ?_
     refine capL (fun F_65 hF_65 => ?_)
     refine fr ((unknown fs t.u).length) (fun j l' H' L' => [(9, .pointer (some ⟨b_2, 0, none⟩)), (90, .slice a81 (unknown fs t.u).length cu81), (91, .int .i64 ((unknown fs t.u).length : Int))] = l' ∧ F_65 = L') [(9, .pointer (some ⟨b_2, 0, none⟩)), (90, .slice a81 (unknown fs t.u).length cu81), (91, .int .i64 ((unknown fs t.u).length : Int))] (fun j l' H' L' h => ?_) (by have := hG.u.len; omega) rfl (.of ⟨rfl, rfl, rfl, trivial⟩) ⟨rfl, rfl⟩ rfl rfl rfl rfl rfl (fun j l' H' L' hj le_63 hI => ?_) (fun l' H' L' le_64 hI => ?_)
     · obtain ⟨rfl, _⟩ := h; exact ⟨rfl, rfl, rfl, rfl⟩
     ·
      obtain ⟨rfl, rfl⟩ := hI
      subst hF_65
      have hjg : j < g.u.length := hul2.symm ▸ hj
      have hel : g.u[j] = wholeTag (unknown fs t.u)[j] := (List.getElem_of_eq hue hjg).trans (List.getElem_map _)
      have hkey : g.u[j].1 = (unknown fs t.u)[j].1 := by rw [hel]; rfl
      have hval : g.u[j].2 = whole (unknown fs t.u)[j].2 := by rw [hel]; rfl
      refine sr ?_
      refine mv rfl rfl ?_
      obtain ⟨b_66, o_67, e_68, g_69⟩ := (gu81.mono le_63).at_ (ne_nil_of_lt hj)
      obtain ⟨c_70, q_71, q_72⟩ := g_69 j hj
      refine ix2 Tryz.runUnderlying24 Tryz.sizeOf66 rfl e_68 rfl rfl hj rfl ?_
      refine la (Says.fz q_71) Tryz.isAgg66 Tryz.sizeOf66 rfl (Nat.add_zero _).symm rfl rfl ?_
      refine al Tryz.zeroValue66 rfl rfl (fun b_73 => ?_)
      refine asg rfl rfl ?_
      refine sa Tryz.sizeOf66 rfl rfl rfl rfl rfl .head ?_
      refine nl ?_
      refine sq ?_
      refine rgD 22 kp3 mixed ?_
      refine dU 0 rfl rfl rfl (y_fa0 F26_4 rfl) kp3 ler ?_
      refine dU 1 rfl rfl rfl (y_ld (Says.own (.tail .head)) Tryz.isAgg24 rfl (Nat.zero_add _).symm rfl) kp3 ler ?_
      refine dU 2 rfl rfl rfl (y_mv rfl) kp3 ler ?_
      obtain ⟨b_74, o_75, e_76, g_77⟩ := (hG.u.mono (le_4.trans (le81.trans le_63))).at_ (ne_nil_of_lt hjg)
      obtain ⟨c_78, q_79, q_80⟩ := g_77 j hjg
      refine dU 3 rfl rfl rfl (y_ix2 Tryz.runUnderlying24 Tryz.sizeOf66 rfl e_76 rfl rfl hjg) kp3 ler ?_
      refine dU 4 rfl rfl rfl (y_fa F66_0 rfl) kp3 ler ?_
      refine dU 5 rfl rfl rfl (y_ld (Says.fz q_79) Tryz.isAgg64 rfl (Nat.add_zero _).symm rfl) kp3 ler ?_
      refine dU 6 rfl rfl rfl (y_fa0 F66_0 rfl) kp3 ler ?_
      refine dU 7 rfl rfl rfl (y_ld (Says.own .head) Tryz.isAgg64 rfl (Nat.zero_add _).symm rfl) kp3 ler ?_
      refine dU 8 rfl rfl rfl (y_ne rfl rfl) kp3 ler ?_
      refine dU 9 rfl rfl rfl (y_mv rfl) kp3 ler ?_
      refine splH (t := 106) rfl (fun hn_ => absurd hkey hn_) (fun _ => ?_)
      refine dU 10 rfl rfl rfl (y_gr rfl rfl (y_fa0 F26_4 rfl)) kp3 ler ?_
      refine dU 11 rfl rfl rfl (y_gr rfl rfl (y_ld (Says.own (.tail .head)) Tryz.isAgg24 rfl (Nat.zero_add _).symm rfl)) kp3 ler ?_
      refine dU 12 rfl rfl rfl (y_gr rfl rfl (y_mv rfl)) kp3 ler ?_
      obtain ⟨b_81, o_82, e_83, g_84⟩ := (hG.u.mono (le_4.trans (le81.trans le_63))).at_ (ne_nil_of_lt hjg)
      obtain ⟨c_85, q_86, q_87⟩ := g_84 j hjg
      refine dU 13 rfl rfl rfl (y_gr rfl rfl (y_ix2 Tryz.runUnderlying24 Tryz.sizeOf66 rfl e_83 rfl rfl hjg)) kp3 ler ?_
      refine dU 14 rfl rfl rfl (y_gr rfl rfl (y_fa F66_1 rfl)) kp3 ler ?_
      refine dU 15 rfl rfl rfl (y_gr rfl rfl (y_ld (Says.fz q_86) Tryz.isAgg22 rfl rfl rfl)) kp3 ler ?_
      refine dU 16 rfl rfl rfl (y_gr rfl rfl (y_fa0 F66_1 rfl)) kp3 ler ?_
      refine dU 17 rfl rfl rfl (y_gr rfl rfl (y_ld (Says.own .head) Tryz.isAgg22 rfl (Nat.zero_add _).symm rfl)) kp3 ler ?_
      refine dE 18 (by kernel_rfl) rfl ?_
      refine gr rfl rfl ?_
      refine cl rfl rfl rfl (s_whole q_72.val rfl) rfl (fun v_ H1 L1 hle hR => ?_)
      obtain ⟨rfl, rfl, rfl⟩ := hR
      refine dN kp3 ler ?_
      refine dE 19 (by kernel_rfl) rfl ?_
      refine gr rfl rfl ?_
      refine cl rfl rfl rfl (s_same q_87.val (q_72.val.take most)) rfl (fun v_ H1 L1 hle hR => ?_)
      rw [decide_eq_true hval] at hR
      obtain ⟨rfl, rfl, rfl⟩ := hR
      refine dN kp3 ler ?_
      refine dU 20 rfl rfl rfl (y_gr rfl rfl (y_nt rfl)) kp3 ler ?_
      refine dU 21 rfl rfl rfl (y_pk rfl rfl rfl) kp3 ler ?_
      refine dD (by kernel_rfl) ?_
      refine Nt ?_
      refine cF rfl ?_
      refine skN ?_
      refine Nb ?_
      refine drN .head ?_
      refine fun a w hA hw => ⟨_, _, _, hA.sub ?_, le_63, hw, _, rfl, rfl, rfl⟩
      exact (.of ⟨rfl, rfl, rfl, rfl, trivial⟩)
     ·
      obtain ⟨rfl, rfl⟩ := hI
      subst hF_65
      refine toWp ?_
      refine sr ?_
      refine asg rfl rfl ?_
      refine nl ?_
      refine drW .head ?_
      refine drW .head ?_
      exact rT rfl rfl (le_4.trans (le81.trans le_64)) (fun _ _ h => h) ⟨rfl, rfl⟩
theorem s_usl {v : Int} {flex : Bool} {fs : List Fd} (h : RdGood v flex fs) : UslC fs ∧ ∀ f ∈ fs, UslC [f] := by
 induction h with
 | mk fs h hr ih =>
  have hN : ∀ f ∈ fs, f.kind = 10 → f.nul < 0 := fun f hf hk => by
   rcases Int.lt_or_le f.nul 0 with h0 | h0
   · exact h0
   · have := (h f hf).nul h0; omega
  refine ⟨@s_usl0 fs hN (fun f hf => (ih f hf).1), fun f hf => @s_usl0 [f] (fun g hg => ?_) (fun g hg => ?_)⟩
  · obtain rfl := List.mem_singleton.1 hg; exact hN _ hf
  · obtain rfl := List.mem_singleton.1 hg; exact (ih _ hf).1
theorem s_Told {v : Int} {flex : Bool} {fs : List Fd} (h : RdGood v flex fs) : ToldC fs v flex := by
 have hU := (s_usl h).2
 induction h with
 | mk fs h hr ih =>
  refine @s_Told0 fs v flex (fun f hf => (h f hf).tag) (fun f hf => ?_) hU
  have hs : ToldC f.sub v flex := @ih f hf (s_usl (hr f hf)).2
  have ho : f.kind = 11 → f.of ≠ 11 := fun h11 => by have := ((h f hf).of h11).2.1; omega
  exact @s_told0 f v flex hs (fun h11 => @s_told0 (oneOf f) v flex hs (fun k => absurd (show f.of = 11 from k) (ho h11)) (fun k => absurd (show f.of = 11 from k) (ho h11))) ho
end Go.Sx

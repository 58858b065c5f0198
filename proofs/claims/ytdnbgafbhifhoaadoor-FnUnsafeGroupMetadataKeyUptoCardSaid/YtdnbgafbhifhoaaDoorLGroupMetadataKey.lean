import Derived.Test.YtdnbgafbhifhoaaDoorSxTab
import Derived.Test.YtdnbgafbhifhoaaDoorCGroupMetadataKey
import Derived.Test.YtdnbgafbhifhoaaDoorDGroupMetadataKey
import Derived.Test.YtdnbgafbhifhoaaDoorMGroupMetadataKey
import Derived.Test.YtdnbgafbhifhoaaDoorS5
import Derived.KernelRfl
set_option linter.unusedVariables false
set_option linter.unusedSimpArgs false
set_option maxRecDepth 100000
set_option maxHeartbeats 20000000
namespace Go.Sx
open Go.Proofs
theorem good_GroupMetadataKey : Good fs_GroupMetadataKey := Good.of (by decide) (by decide)
theorem new_GroupMetadataKey {H : Fz} {L : Own} :
    Fn Tryd.prog 51 [] H L (fun v H' L' => H = H' ∧ L = L' ∧ v = .agg #[.int .i16 0, .string ⟨#[]⟩]) := by
  refine Fn.mk Tryd.call51 Tryd.func51 rfl Tryd.ntmps51 rfl ?_
  refine sr ?_
  refine al Tryd.zeroValue47 rfl rfl (fun b_1 => ?_)
  refine nl ?_
  refine sr ?_
  refine al Tryd.zeroValue47 rfl rfl (fun b_2 => ?_)
  refine nl ?_
  refine sr ?_
  refine cl rfl rfl rfl def0_GroupMetadataKey rfl (fun v H1 L1 hle hR => ?_)
  obtain ⟨rfl, rfl⟩ := hR
  refine nl ?_
  refine sr ?_
  refine la (Says.own .head) Tryd.isAgg47 Tryd.sizeOf47 rfl (Nat.zero_add _).symm rfl rfl ?_
  refine sa Tryd.sizeOf47 rfl rfl rfl rfl rfl (.tail .head) ?_
  refine nl ?_
  refine drW .head ?_
  exact rC rfl Tryd.isAgg47 Tryd.sizeOf47 rfl .head rfl (Fz.le.refl _) (fun _ _ h => h) ⟨rfl, rfl, rfl⟩
theorem rf_GroupMetadataKey {H : Fz} {L : Own} {b : Nat} {a : Option Addr} {c : Nat} {s : List UInt8} {e : Value} (hB : BytesAt H a c s) (hL_ : s.length ≤ BR) (he : H.at 1 0 [e]) :
    Fn Tryd.prog 52 [.pointer (some ⟨b, 0, none⟩), .slice a s.length c] H ([(b, .cells [.int .i16 0, .string ⟨#[]⟩].toArray 47 (0, 0))] :: L) (fun r H' L' => ∃ cs : List Value, L' = [(b, .cells cs.toArray 47 (0, 0))] :: L ∧ RdEnd H' (At_GroupMetadataKey (IntKind.i16.wrap (kV ⟨s, false, !a.isNone⟩).1.n)) (decP fs_GroupMetadataKey 0 false (kV ⟨s, false, !a.isNone⟩).2) e r cs) := by
  refine Fn.mk Tryd.call52 Tryd.func52 rfl Tryd.ntmps52 rfl ?_
  refine sr ?_
  refine asg rfl rfl ?_
  refine nl ?_
  refine sr ?_
  refine mv rfl rfl ?_
  refine mv rfl rfl ?_
  refine cl rfl rfl rfl (rd_GroupMetadataKey hB hL_ he) rfl (fun v_ H1 L1 le1 hR => ?_)
  obtain ⟨cs, rfl, hE⟩ := hR
  refine asg rfl rfl ?_
  refine nl ?_
  exact rT rfl rfl le1 (fun _ _ h => h) ⟨_, rfl, hE⟩
def tk_GroupMetadataKey (s : List UInt8) : Tr := .mk (IntKind.i16.wrap (kV ⟨s, false, !s.isEmpty⟩).1.n) (tl_GroupMetadataKey (decP fs_GroupMetadataKey 0 false (kV ⟨s, false, !s.isEmpty⟩).2).1).s (tl_GroupMetadataKey (decP fs_GroupMetadataKey 0 false (kV ⟨s, false, !s.isEmpty⟩).2).1).nul (tl_GroupMetadataKey (decP fs_GroupMetadataKey 0 false (kV ⟨s, false, !s.isEmpty⟩).2).1).l (tl_GroupMetadataKey (decP fs_GroupMetadataKey 0 false (kV ⟨s, false, !s.isEmpty⟩).2).1).u
theorem im_GroupMetadataKey {H : Fz} {L : Own} {a : Option Addr} {c t : Nat} {s : List UInt8} {ev : Value} (hB : BytesAt H a c s) (hs : s.length ≤ 1000) (he : H.at 1 0 [.iface t ev]) :
    Fn Tryd.prog 14 [.slice a s.length c] H L (fun r H' L' => L = L' ∧ ((decP fs_GroupMetadataKey 0 false (kV ⟨s, false, !s.isEmpty⟩).2).2.bad = true ∧ r = .tuple #[.agg #[.int .i64 0, .slice none 0 0, .bool false, .slice none 0 0, .slice none 0 0], .bool false] ∨ (decP fs_GroupMetadataKey 0 false (kV ⟨s, false, !s.isEmpty⟩).2).2.bad = false ∧ ∃ c : TC, r = .tuple #[.agg (c.cells (tk_GroupMetadataKey s)).toArray, .bool true] ∧ TreeAt H' c (tk_GroupMetadataKey s))) := by
  refine Fn.mk Tryd.call14 Tryd.func14 rfl Tryd.ntmps14 rfl ?_
  refine sr ?_
  refine al Tryd.zeroValue26 rfl rfl (fun b_1 => ?_)
  refine asg rfl rfl ?_
  refine nl ?_
  refine sr ?_
  refine cl rfl rfl rfl new_GroupMetadataKey rfl (fun v_ H1 L1 hle hR => ?_)
  obtain ⟨rfl, rfl, rfl⟩ := hR
  refine al Tryd.zeroValue47 rfl rfl (fun b_2 => ?_)
  refine sa Tryd.sizeOf47 rfl rfl rfl rfl rfl .head ?_
  refine nl ?_
  refine sq ?_
  refine sr ?_
  refine mv rfl rfl ?_
  refine nilL ?_
  refine ap (news := bytesOf s) Tryd.underlying22 I5 rfl rfl (Row.nil _ _) (fun _ => .head) (src_bytes Tryd.underlying22 hB rfl) (by omega) (by unfold maxLen; omega) rfl (fun a8 c8 N8 r8 z8 => ?_)
  rw [Nat.zero_add] at r8 ⊢
  rw [List.nil_append] at r8
  refine frL r8 .head (fun H2 le2 z2 => ?_)
  have y2 := BytesAt.row z2 r8 (by unfold B47; omega)
  have en_ : (!a8.isNone) = !s.isEmpty := isNone_app (by simpa using z8) rfl
  refine cl rfl rfl rfl (rf_GroupMetadataKey y2 (by unfold BR; omega) (he.mono le2)) rfl (fun r_ H3 L3 le3 hR => ?_)
  obtain ⟨cs, rfl, hE⟩ := hR
  rw [en_] at hE
  rcases hE with ⟨hb, rfl⟩ | ⟨hb, rfl, hA⟩
  · skip
    refine nei1 Tryd.underlying50 rfl rfl ?_
    refine nl ?_
    refine cT rfl ?_
    refine sr ?_
    refine bd' S26 rfl rfl rfl ?_
    refine sa Tryd.sizeOf26 rfl rfl rfl rfl rfl (.tail .head) ?_
    refine asg rfl rfl ?_
    refine nl ?_
    refine drW .head ?_
    exact rCT rfl Tryd.isAgg26 Tryd.sizeOf26 rfl rfl .head rfl (le2.trans le3) (fun _ _ h => h) ⟨rfl, .inl ⟨hb, rfl⟩⟩
  · skip
    refine nei0 Tryd.underlying50 rfl rfl ?_
    refine nl ?_
    refine cF rfl ?_
    refine skt ?_
    refine sr ?_
    have hA2 := hA
    unfold At_GroupMetadataKey at hA2
    subst hA2
    refine frL (Row.whole (size := 2) (m := 1) rfl (by decide)) .head (fun H4 le4 z4 => ?_)
    have hv := (show H4.at b_2 0 _ by
      rcases z4 with ⟨h, _⟩ | ⟨g, h, h2⟩
      · cases h
      · cases h; exact h2)
    refine cl rfl rfl rfl (te_GroupMetadataKey hv (At_GroupMetadataKey.mono _ _ _ _ _ le4 hA) (decP_fits good_GroupMetadataKey _ (by show (kV ⟨s, false, !s.isEmpty⟩).2.s.length ≤ 1000000; have h9 := decV_shr (kind := 2) (nul := false) (flex := false) (fun r => decP_shr [] 0 false r) ⟨s, false, !s.isEmpty⟩; have h8 : (kV ⟨s, false, !s.isEmpty⟩).2.s.length ≤ s.length := h9; omega) hb)) rfl (fun v_ H5 L5 le5 hR => ?_)
    obtain ⟨rfl, c5, rfl, g5⟩ := hR
    refine al Tryd.zeroValue26 rfl rfl (fun b_3 => ?_)
    refine sa Tryd.sizeOf26 rfl rfl rfl rfl rfl .head ?_
    refine nl ?_
    refine sr ?_
    refine fa0 F47_0 rfl rfl ?_
    refine ld (Says.fz (hv.mono le5)) Tryd.isAgg45 rfl (Nat.zero_add _).symm rfl rfl ?_
    refine cv Tryd.runUnderlying45 Tryd.runUnderlying2 rfl (i16_64 _) rfl ?_
    refine fa0 F26_0 rfl rfl ?_
    refine st Tryd.sizeOf2 rfl rfl rfl rfl .head ?_
    refine nl ?_
    refine sr ?_
    refine la (Says.own .head) Tryd.isAgg26 Tryd.sizeOf26 rfl (Nat.zero_add _).symm rfl rfl ?_
    refine sa Tryd.sizeOf26 rfl rfl rfl rfl rfl (.tail .head) ?_
    refine asg rfl rfl ?_
    refine nl ?_
    refine drW .head ?_
    exact rCT rfl Tryd.isAgg26 Tryd.sizeOf26 rfl rfl .head rfl (le2.trans (le3.trans (le4.trans le5))) (fun _ _ h => h) ⟨rfl, .inr ⟨hb, c5, rfl, TreeAt.of g5.s g5.l g5.u⟩⟩
theorem rf_GroupMetadataKeyu {H : Fz} {L : Own} {b : Nat} {a : Option Addr} {c : Nat} {s : List UInt8} {e : Value} (hB : BytesAt H a c s) (hL_ : s.length ≤ BR) (he : H.at 1 0 [e]) :
    Fn Tryd.prog 56 [.pointer (some ⟨b, 0, none⟩), .slice a s.length c] H ([(b, .cells [.int .i16 0, .string ⟨#[]⟩].toArray 47 (0, 0))] :: L) (fun r H' L' => ∃ cs : List Value, L' = [(b, .cells cs.toArray 47 (0, 0))] :: L ∧ RdEnd H' (At_GroupMetadataKey (IntKind.i16.wrap (kV ⟨s, false, !a.isNone⟩).1.n)) (decP fs_GroupMetadataKey 0 false (kV ⟨s, false, !a.isNone⟩).2) e r cs) := by
  refine Fn.mk Tryd.call56 Tryd.func56 rfl Tryd.ntmps56 rfl ?_
  refine sr ?_
  refine asg rfl rfl ?_
  refine nl ?_
  refine sr ?_
  refine mv rfl rfl ?_
  refine mv rfl rfl ?_
  refine cl rfl rfl rfl (rd_GroupMetadataKeyu hB hL_ he) rfl (fun v_ H1 L1 le1 hR => ?_)
  obtain ⟨cs, rfl, hE⟩ := hR
  refine asg rfl rfl ?_
  refine nl ?_
  exact rT rfl rfl le1 (fun _ _ h => h) ⟨_, rfl, hE⟩
theorem im_GroupMetadataKeyu {H : Fz} {L : Own} {a : Option Addr} {c t : Nat} {s : List UInt8} {ev : Value} (hB : BytesAt H a c s) (hs : s.length ≤ 1000) (he : H.at 1 0 [.iface t ev]) :
    Fn Tryd.prog 17 [.slice a s.length c] H L (fun r H' L' => L = L' ∧ ((decP fs_GroupMetadataKey 0 false (kV ⟨s, false, !s.isEmpty⟩).2).2.bad = true ∧ r = .tuple #[.agg #[.int .i64 0, .slice none 0 0, .bool false, .slice none 0 0, .slice none 0 0], .bool false] ∨ (decP fs_GroupMetadataKey 0 false (kV ⟨s, false, !s.isEmpty⟩).2).2.bad = false ∧ ∃ c : TC, r = .tuple #[.agg (c.cells (tk_GroupMetadataKey s)).toArray, .bool true] ∧ TreeAt H' c (tk_GroupMetadataKey s))) := by
  refine Fn.mk Tryd.call17 Tryd.func17 rfl Tryd.ntmps17 rfl ?_
  refine sr ?_
  refine al Tryd.zeroValue26 rfl rfl (fun b_1 => ?_)
  refine asg rfl rfl ?_
  refine nl ?_
  refine sr ?_
  refine cl rfl rfl rfl new_GroupMetadataKey rfl (fun v_ H1 L1 hle hR => ?_)
  obtain ⟨rfl, rfl, rfl⟩ := hR
  refine al Tryd.zeroValue47 rfl rfl (fun b_2 => ?_)
  refine sa Tryd.sizeOf47 rfl rfl rfl rfl rfl .head ?_
  refine nl ?_
  refine sq ?_
  refine sr ?_
  refine mv rfl rfl ?_
  refine nilL ?_
  refine ap (news := bytesOf s) Tryd.underlying22 I5 rfl rfl (Row.nil _ _) (fun _ => .head) (src_bytes Tryd.underlying22 hB rfl) (by omega) (by unfold maxLen; omega) rfl (fun a8 c8 N8 r8 z8 => ?_)
  rw [Nat.zero_add] at r8 ⊢
  rw [List.nil_append] at r8
  refine frL r8 .head (fun H2 le2 z2 => ?_)
  have y2 := BytesAt.row z2 r8 (by unfold B47; omega)
  have en_ : (!a8.isNone) = !s.isEmpty := isNone_app (by simpa using z8) rfl
  refine cl rfl rfl rfl (rf_GroupMetadataKeyu y2 (by unfold BR; omega) (he.mono le2)) rfl (fun r_ H3 L3 le3 hR => ?_)
  obtain ⟨cs, rfl, hE⟩ := hR
  rw [en_] at hE
  rcases hE with ⟨hb, rfl⟩ | ⟨hb, rfl, hA⟩
  · skip
    refine nei1 Tryd.underlying50 rfl rfl ?_
    refine nl ?_
    refine cT rfl ?_
    refine sr ?_
    refine bd' S26 rfl rfl rfl ?_
    refine sa Tryd.sizeOf26 rfl rfl rfl rfl rfl (.tail .head) ?_
    refine asg rfl rfl ?_
    refine nl ?_
    refine drW .head ?_
    exact rCT rfl Tryd.isAgg26 Tryd.sizeOf26 rfl rfl .head rfl (le2.trans le3) (fun _ _ h => h) ⟨rfl, .inl ⟨hb, rfl⟩⟩
  · skip
    refine nei0 Tryd.underlying50 rfl rfl ?_
    refine nl ?_
    refine cF rfl ?_
    refine skt ?_
    refine sr ?_
    have hA2 := hA
    unfold At_GroupMetadataKey at hA2
    subst hA2
    refine frL (Row.whole (size := 2) (m := 1) rfl (by decide)) .head (fun H4 le4 z4 => ?_)
    have hv := (show H4.at b_2 0 _ by
      rcases z4 with ⟨h, _⟩ | ⟨g, h, h2⟩
      · cases h
      · cases h; exact h2)
    refine cl rfl rfl rfl (te_GroupMetadataKey hv (At_GroupMetadataKey.mono _ _ _ _ _ le4 hA) (decP_fits good_GroupMetadataKey _ (by show (kV ⟨s, false, !s.isEmpty⟩).2.s.length ≤ 1000000; have h9 := decV_shr (kind := 2) (nul := false) (flex := false) (fun r => decP_shr [] 0 false r) ⟨s, false, !s.isEmpty⟩; have h8 : (kV ⟨s, false, !s.isEmpty⟩).2.s.length ≤ s.length := h9; omega) hb)) rfl (fun v_ H5 L5 le5 hR => ?_)
    obtain ⟨rfl, c5, rfl, g5⟩ := hR
    refine al Tryd.zeroValue26 rfl rfl (fun b_3 => ?_)
    refine sa Tryd.sizeOf26 rfl rfl rfl rfl rfl .head ?_
    refine nl ?_
    refine sr ?_
    refine fa0 F47_0 rfl rfl ?_
    refine ld (Says.fz (hv.mono le5)) Tryd.isAgg45 rfl (Nat.zero_add _).symm rfl rfl ?_
    refine cv Tryd.runUnderlying45 Tryd.runUnderlying2 rfl (i16_64 _) rfl ?_
    refine fa0 F26_0 rfl rfl ?_
    refine st Tryd.sizeOf2 rfl rfl rfl rfl .head ?_
    refine nl ?_
    refine sr ?_
    refine la (Says.own .head) Tryd.isAgg26 Tryd.sizeOf26 rfl (Nat.zero_add _).symm rfl rfl ?_
    refine sa Tryd.sizeOf26 rfl rfl rfl rfl rfl (.tail .head) ?_
    refine asg rfl rfl ?_
    refine nl ?_
    refine drW .head ?_
    exact rCT rfl Tryd.isAgg26 Tryd.sizeOf26 rfl rfl .head rfl (le2.trans (le3.trans (le4.trans le5))) (fun _ _ h => h) ⟨rfl, .inr ⟨hb, c5, rfl, TreeAt.of g5.s g5.l g5.u⟩⟩
theorem kb_GroupMetadataKey : ((Msg.mk fs_GroupMetadataKey (-1)).kept 0 (Tr.mk 0 [] false [] [])) = [0, 0, 0, 0] := by decide +kernel
theorem kg_GroupMetadataKey : (decP fs_GroupMetadataKey 0 false (kV ⟨[0, 0, 0, 0], false, true⟩).2).2.bad = false := by decide +kernel
theorem law_GroupMetadataKey {H : Fz} {L : Own} {a : Option Addr} {c t : Nat} {s : List UInt8} {ev : Value} (hB : BytesAt H a c s) (he : H.at 1 0 [.iface t ev]) :
    Fn Tryd.prog 3 [.slice a s.length c] H L (fun r H' L' => L = L' ∧ r = .bool true) := by
  refine Fn.mk Tryd.call3 Tryd.func3 rfl Tryd.ntmps3 rfl ?_
  refine sr ?_
  refine asg rfl rfl ?_
  refine nl ?_
  refine sq ?_
  refine sr ?_
  refine mv rfl rfl ?_
  refine ls Tryd.runUnderlying22 rfl rfl ?_
  refine gt rfl rfl rfl ?_
  refine nl ?_
  refine cd rfl (fun h11 => ?_) (fun h11 => ?_)
  · skip
    refine sr ?_
    refine asg rfl rfl ?_
    refine nl ?_
    exact rT rfl rfl (Fz.le.refl _) (fun _ _ h => h) ⟨rfl, rfl⟩
  · skip
    refine skt ?_
    refine sq ?_
    refine sr ?_
    refine mv rfl rfl ?_
    refine ls Tryd.runUnderlying22 rfl rfl ?_
    refine gt rfl rfl rfl ?_
    refine nl ?_
    refine cd rfl (fun h14 => ?_) (fun h14 => ?_)
    · skip
      refine sr ?_
      refine asg rfl rfl ?_
      refine nl ?_
      exact rT rfl rfl (Fz.le.refl _) (fun _ _ h => h) ⟨rfl, rfl⟩
    · skip
      have hs_ : s.length ≤ 1000 := by omega
      refine skt ?_
      refine sr ?_
      refine cl rfl rfl rfl s_GroupMetadataKey rfl (fun v_ H1 L1 le_1 hR => ?_)
      obtain ⟨rfl, af, rfl, hF⟩ := hR
      refine bd' S37 rfl rfl rfl ?_
      refine cl rfl rfl rfl (s_kept (m := (Msg.mk fs_GroupMetadataKey (-1))) (ver := 0) (c := ⟨none, 0, none, 0, none, 0⟩) (t := (Tr.mk 0 [] false [] [])) hF (TreeAt.of (.nil _) (.nil _) (.nil _)) (by rw [kb_GroupMetadataKey]; decide)) rfl (fun v_ H1 L1 le_2 hR => ?_)
      obtain ⟨aw, cw, Nw, rfl, rfl, hw_⟩ := hR
      rw [kb_GroupMetadataKey] at hw_
      refine frL hw_.1 .head (fun H8 le8 z8 => ?_)
      have y8 := BytesAt.row z8 hw_.1 (by decide)
      refine cl rfl rfl rfl (im_GroupMetadataKey y8 (by decide) (he.mono (le_1.trans (le_2.trans le8)))) rfl (fun r_ H3 L3 le_3 hR => ?_)
      obtain ⟨rfl, hR⟩ := hR
      rcases hR with ⟨hb0, rfl⟩ | ⟨hb0, c0, rfl, g0⟩
      · skip
        exact absurd (kg_GroupMetadataKey.symm.trans hb0) (by decide)
      · skip
        refine mv rfl rfl ?_
        refine extr rfl rfl rfl ?_
        refine extr rfl rfl rfl ?_
        refine al Tryd.zeroValue26 rfl rfl (fun b_4 => ?_)
        refine sa Tryd.sizeOf26 rfl rfl rfl rfl rfl .head ?_
        refine asg rfl rfl ?_
        refine nl ?_
        refine sr ?_
        refine mv rfl rfl ?_
        refine cl rfl rfl rfl (im_GroupMetadataKey (hB.mono (le_1.trans (le_2.trans (le8.trans le_3)))) hs_ (he.mono (le_1.trans (le_2.trans (le8.trans le_3))))) rfl (fun r_ H3 L3 le_5 hR => ?_)
        obtain ⟨rfl, hR⟩ := hR
        rcases hR with ⟨hb1, rfl⟩ | ⟨hb1, c1, rfl, g1⟩
        · skip
          refine mv rfl rfl ?_
          refine extr rfl rfl rfl ?_
          refine extr rfl rfl rfl ?_
          refine al Tryd.zeroValue26 rfl rfl (fun b_6 => ?_)
          refine sa Tryd.sizeOf26 rfl rfl rfl rfl rfl .head ?_
          refine asg rfl rfl ?_
          refine nl ?_
          refine sr ?_
          refine mv rfl rfl ?_
          refine cl rfl rfl rfl (im_GroupMetadataKeyu (hB.mono (le_1.trans (le_2.trans (le8.trans (le_3.trans le_5))))) hs_ (he.mono (le_1.trans (le_2.trans (le8.trans (le_3.trans le_5)))))) rfl (fun r_ H3 L3 le_7 hR => ?_)
          obtain ⟨rfl, hR⟩ := hR
          rcases hR with ⟨hb2, rfl⟩ | ⟨hb2, c2, rfl, g2⟩
          · skip
            refine mv rfl rfl ?_
            refine extr rfl rfl rfl ?_
            refine extr rfl rfl rfl ?_
            refine al Tryd.zeroValue26 rfl rfl (fun b_8 => ?_)
            refine sa Tryd.sizeOf26 rfl rfl rfl rfl rfl .head ?_
            refine asg rfl rfl ?_
            refine nl ?_
            refine sq ?_
            refine rgD 18 (.keep (.keep (.keep .nil))) mixed ?_
            refine dT 0 rfl rfl rfl (by kernel_rfl) (fun _ _ _ h => h) (y_mv rfl) (.keep (.keep (.keep .nil))) (Fz.le.refl _) ?_
            refine dT 1 rfl rfl rfl (by kernel_rfl) (fun _ _ _ h => h) (y_mv rfl) (.keep (.keep (.keep .nil))) (Fz.le.refl _) ?_
            refine dT 2 rfl rfl rfl (by kernel_rfl) (fun _ _ _ h => h) (y_gr rfl rfl (y_mv rfl)) (.keep (.keep (.keep .nil))) (Fz.le.refl _) ?_
            refine dT 3 rfl rfl rfl (by kernel_rfl) (fun _ _ _ h => h) (y_gr rfl rfl (y_mv rfl)) (.keep (.keep (.keep .nil))) (Fz.le.refl _) ?_
            refine dT 4 rfl rfl rfl (by kernel_rfl) (fun _ _ _ h => h) (y_gr rfl rfl (y_eqb Tryd.underlying4 rfl rfl)) (.keep (.keep (.keep .nil))) (Fz.le.refl _) ?_
            refine dT 5 rfl rfl rfl (by kernel_rfl) (fun _ _ _ h => h) (y_pk rfl rfl rfl) (.keep (.keep (.keep .nil))) (Fz.le.refl _) ?_
            refine dT 6 rfl rfl rfl (by kernel_rfl) (fun _ _ _ h => h) (y_mv rfl) (.keep (.keep (.keep .nil))) (Fz.le.refl _) ?_
            refine dT 7 rfl rfl rfl (by kernel_rfl) (fun _ _ _ h => h) (y_gr rfl rfl (y_mv rfl)) (.keep (.keep (.keep .nil))) (Fz.le.refl _) ?_
            refine dT 8 rfl rfl rfl (by kernel_rfl) (fun _ _ _ h => h) (y_gr rfl rfl (y_nt rfl)) (.keep (.keep (.keep .nil))) (Fz.le.refl _) ?_
            refine dT 9 rfl rfl rfl (by kernel_rfl) (fun _ _ _ h => h) (y_gr rfl rfl (y_mv rfl)) (.keep (.keep (.keep .nil))) (Fz.le.refl _) ?_
            refine dT 10 rfl rfl rfl (by kernel_rfl) (fun _ _ _ h => h) (y_gs rfl rfl rfl) (.keep (.keep (.keep .nil))) (Fz.le.refl _) ?_
            refine dT 12 rfl rfl rfl (by kernel_rfl) (fun _ _ _ h => h) (y_gs rfl rfl rfl) (.keep (.keep (.keep .nil))) (Fz.le.refl _) ?_
            refine dE 11 (by kernel_rfl) rfl ?_
            refine gs rfl rfl rfl rfl ?_
            refine dN (.keep (.keep (.keep .nil))) (Fz.le.refl _) ?_
            refine dE 13 (by kernel_rfl) rfl ?_
            refine gs rfl rfl rfl rfl ?_
            refine dN (.keep (.keep (.keep .nil))) (Fz.le.refl _) ?_
            refine dE 14 (by kernel_rfl) rfl ?_
            refine gs rfl rfl rfl rfl ?_
            refine dN (.keep (.keep (.keep .nil))) (Fz.le.refl _) ?_
            refine dT 15 rfl rfl rfl (by kernel_rfl) (fun _ _ _ h => h) (y_gr rfl rfl (y_pk rfl rfl rfl)) (.keep (.keep (.keep .nil))) (Fz.le.refl _) ?_
            refine dT 16 rfl rfl rfl (by kernel_rfl) (fun _ _ _ h => h) (y_pk rfl rfl rfl) (.keep (.keep (.keep .nil))) (Fz.le.refl _) ?_
            refine dT 17 rfl rfl rfl (by kernel_rfl) (fun _ _ _ h => h) (y_asg rfl) (.keep (.keep (.keep .nil))) (Fz.le.refl _) ?_
            refine dD (by kernel_rfl) ?_
            refine Nt ?_
            refine drW .head ?_
            refine drW .head ?_
            refine drW .head ?_
            exact rT rfl rfl (le_1.trans (le_2.trans (le8.trans (le_3.trans (le_5.trans le_7))))) (fun _ _ h => h) ⟨rfl, rfl⟩
          · skip
            rw [hb1] at hb2; cases hb2
        · skip
          refine mv rfl rfl ?_
          refine extr rfl rfl rfl ?_
          refine extr rfl rfl rfl ?_
          refine al Tryd.zeroValue26 rfl rfl (fun b_9 => ?_)
          refine sa Tryd.sizeOf26 rfl rfl rfl rfl rfl .head ?_
          refine asg rfl rfl ?_
          refine nl ?_
          refine sr ?_
          refine mv rfl rfl ?_
          refine cl rfl rfl rfl (im_GroupMetadataKeyu (hB.mono (le_1.trans (le_2.trans (le8.trans (le_3.trans le_5))))) hs_ (he.mono (le_1.trans (le_2.trans (le8.trans (le_3.trans le_5)))))) rfl (fun r_ H3 L3 le_10 hR => ?_)
          obtain ⟨rfl, hR⟩ := hR
          rcases hR with ⟨hb2, rfl⟩ | ⟨hb2, c2, rfl, g2⟩
          · skip
            rw [hb1] at hb2; cases hb2
          · skip
            refine mv rfl rfl ?_
            refine extr rfl rfl rfl ?_
            refine extr rfl rfl rfl ?_
            refine al Tryd.zeroValue26 rfl rfl (fun b_11 => ?_)
            refine sa Tryd.sizeOf26 rfl rfl rfl rfl rfl .head ?_
            refine asg rfl rfl ?_
            refine nl ?_
            refine sq ?_
            refine rgD 18 (.keep (.keep (.keep .nil))) mixed ?_
            refine dT 0 rfl rfl rfl (by kernel_rfl) (fun _ _ _ h => h) (y_mv rfl) (.keep (.keep (.keep .nil))) (Fz.le.refl _) ?_
            refine dT 1 rfl rfl rfl (by kernel_rfl) (fun _ _ _ h => h) (y_mv rfl) (.keep (.keep (.keep .nil))) (Fz.le.refl _) ?_
            refine dT 2 rfl rfl rfl (by kernel_rfl) (fun _ _ _ h => h) (y_gr rfl rfl (y_mv rfl)) (.keep (.keep (.keep .nil))) (Fz.le.refl _) ?_
            refine dT 3 rfl rfl rfl (by kernel_rfl) (fun _ _ _ h => h) (y_gr rfl rfl (y_mv rfl)) (.keep (.keep (.keep .nil))) (Fz.le.refl _) ?_
            refine dT 4 rfl rfl rfl (by kernel_rfl) (fun _ _ _ h => h) (y_gr rfl rfl (y_eqb Tryd.underlying4 rfl rfl)) (.keep (.keep (.keep .nil))) (Fz.le.refl _) ?_
            refine dT 5 rfl rfl rfl (by kernel_rfl) (fun _ _ _ h => h) (y_pk rfl rfl rfl) (.keep (.keep (.keep .nil))) (Fz.le.refl _) ?_
            refine dT 6 rfl rfl rfl (by kernel_rfl) (fun _ _ _ h => h) (y_mv rfl) (.keep (.keep (.keep .nil))) (Fz.le.refl _) ?_
            refine dT 7 rfl rfl rfl (by kernel_rfl) (fun _ _ _ h => h) (y_gr rfl rfl (y_mv rfl)) (.keep (.keep (.keep .nil))) (Fz.le.refl _) ?_
            refine dT 8 rfl rfl rfl (by kernel_rfl) (fun _ _ _ h => h) (y_gr rfl rfl (y_nt rfl)) (.keep (.keep (.keep .nil))) (Fz.le.refl _) ?_
            refine dT 9 rfl rfl rfl (by kernel_rfl) (fun _ _ _ h => h) (y_gr rfl rfl (y_mv rfl)) (.keep (.keep (.keep .nil))) (Fz.le.refl _) ?_
            refine dT 10 rfl rfl rfl (by kernel_rfl) (fun _ _ _ h => h) (y_gr rfl rfl (y_la (Says.own (.tail .head)) Tryd.isAgg26 Tryd.sizeOf26 rfl (Nat.zero_add _).symm rfl)) (.keep (.keep (.keep .nil))) (Fz.le.refl _) ?_
            refine dT 12 rfl rfl rfl (by kernel_rfl) (fun _ _ _ h => h) (y_gr rfl rfl (y_la (Says.own .head) Tryd.isAgg26 Tryd.sizeOf26 rfl (Nat.zero_add _).symm rfl)) (.keep (.keep (.keep .nil))) (Fz.le.refl _) ?_
            refine dE 11 (by kernel_rfl) rfl ?_
            refine gr rfl rfl ?_
            refine cl rfl rfl rfl (s_got _ (g1.mono le_10)) rfl (fun v_ H1 L1 le_12 hR => ?_)
            obtain ⟨rfl, q0, rfl, k0⟩ := hR
            refine dN (.keep (.keep (.keep .nil))) le_12 ?_
            refine dE 13 (by kernel_rfl) rfl ?_
            refine gr rfl rfl ?_
            refine cl rfl rfl rfl (s_got _ (g2.mono le_12)) rfl (fun v_ H1 L1 le_13 hR => ?_)
            obtain ⟨rfl, q1, rfl, k1⟩ := hR
            refine dN (.keep (.keep (.keep .nil))) (le_12.trans le_13) ?_
            refine dE 14 (by kernel_rfl) rfl ?_
            refine gr rfl rfl ?_
            refine cl rfl rfl rfl (s_sametree _ (k0.mono le_13) k1) rfl (fun v_ H1 L1 hle hR => ?_)
            obtain ⟨rfl, rfl, rfl⟩ := hR
            refine dN (.keep (.keep (.keep .nil))) (le_12.trans le_13) ?_
            refine dT 15 rfl rfl rfl (by kernel_rfl) (fun _ _ _ h => h) (y_gr rfl rfl (y_pk rfl rfl rfl)) (.keep (.keep (.keep .nil))) (le_12.trans le_13) ?_
            refine dT 16 rfl rfl rfl (by kernel_rfl) (fun _ _ _ h => h) (y_pk rfl rfl rfl) (.keep (.keep (.keep .nil))) (le_12.trans le_13) ?_
            refine dT 17 rfl rfl rfl (by kernel_rfl) (fun _ _ _ h => h) (y_asg rfl) (.keep (.keep (.keep .nil))) (le_12.trans le_13) ?_
            refine dD (by kernel_rfl) ?_
            refine Nt ?_
            refine drW .head ?_
            refine drW .head ?_
            refine drW .head ?_
            exact rT rfl rfl (le_1.trans (le_2.trans (le8.trans (le_3.trans (le_5.trans (le_10.trans (le_12.trans le_13))))))) (fun _ _ h => h) ⟨rfl, rfl⟩
end Go.Sx

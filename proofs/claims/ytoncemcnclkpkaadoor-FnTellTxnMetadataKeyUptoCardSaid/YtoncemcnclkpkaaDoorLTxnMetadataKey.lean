import Derived.Test.YtoncemcnclkpkaaDoorSxTab
import Derived.Test.YtoncemcnclkpkaaDoorCTxnMetadataKey
import Derived.Test.YtoncemcnclkpkaaDoorDTxnMetadataKey
import Derived.Test.YtoncemcnclkpkaaDoorPTxnMetadataKey
import Derived.Test.YtoncemcnclkpkaaDoorMTxnMetadataKey
import Derived.Test.YtoncemcnclkpkaaDoorS4
import Derived.Test.YtoncemcnclkpkaaDoorS9
import Derived.KernelRfl
set_option linter.unusedVariables false
set_option linter.unusedSimpArgs false
set_option maxRecDepth 100000
set_option maxHeartbeats 20000000
namespace Go.Sx
open Go.Proofs
theorem good_TxnMetadataKey : Good fs_TxnMetadataKey := Good.of (by decide) (by decide)
theorem new_TxnMetadataKey {H : Fz} {L : Own} :
    Fn Tryd.prog 77 [] H L (fun v H' L' => H = H' ∧ L = L' ∧ v = .agg #[.int .i16 0, .string ⟨#[]⟩]) := by
  refine Fn.mk Tryd.call77 Tryd.func77 rfl Tryd.ntmps77 rfl ?_
  refine sr ?_
  refine al Tryd.zeroValue86 rfl rfl (fun b_1 => ?_)
  refine nl ?_
  refine sr ?_
  refine al Tryd.zeroValue86 rfl rfl (fun b_2 => ?_)
  refine nl ?_
  refine sr ?_
  refine cl rfl rfl rfl def0_TxnMetadataKey rfl (fun v H1 L1 hle hR => ?_)
  obtain ⟨rfl, rfl⟩ := hR
  refine nl ?_
  refine sr ?_
  refine la (Says.own .head) Tryd.isAgg86 Tryd.sizeOf86 rfl (Nat.zero_add _).symm rfl rfl ?_
  refine sa Tryd.sizeOf86 rfl rfl rfl rfl rfl (.tail .head) ?_
  refine nl ?_
  refine drW .head ?_
  exact rC rfl Tryd.isAgg86 Tryd.sizeOf86 rfl .head rfl (Fz.le.refl _) (fun _ _ h => h) ⟨rfl, rfl, rfl⟩
theorem rf_TxnMetadataKey {H : Fz} {L : Own} {b : Nat} {a : Option Addr} {c : Nat} {s : List UInt8} {e : Value} (hB : BytesAt H a c s) (hL_ : s.length ≤ BR) (he : H.at 0 0 [e]) :
    Fn Tryd.prog 78 [.pointer (some ⟨b, 0, none⟩), .slice a s.length c] H ([(b, .cells [.int .i16 0, .string ⟨#[]⟩].toArray 86 (0, 0))] :: L) (fun r H' L' => ∃ cs : List Value, L' = [(b, .cells cs.toArray 86 (0, 0))] :: L ∧ RdEnd H' (At_TxnMetadataKey (IntKind.i16.wrap (kV ⟨s, false, !a.isNone⟩).1.n)) (decP fs_TxnMetadataKey 0 false (kV ⟨s, false, !a.isNone⟩).2) e r cs) := by
  refine Fn.mk Tryd.call78 Tryd.func78 rfl Tryd.ntmps78 rfl ?_
  refine sr ?_
  refine asg rfl rfl ?_
  refine nl ?_
  refine sr ?_
  refine mv rfl rfl ?_
  refine mv rfl rfl ?_
  refine cl rfl rfl rfl (rd_TxnMetadataKey hB hL_ he) rfl (fun v_ H1 L1 le1 hR => ?_)
  obtain ⟨cs, rfl, hE⟩ := hR
  refine asg rfl rfl ?_
  refine nl ?_
  exact rT rfl rfl le1 (fun _ _ h => h) ⟨_, rfl, hE⟩
def tk_TxnMetadataKey (s : List UInt8) : Tr := .mk (IntKind.i16.wrap (kV ⟨s, false, !s.isEmpty⟩).1.n) (tl_TxnMetadataKey (decP fs_TxnMetadataKey 0 false (kV ⟨s, false, !s.isEmpty⟩).2).1).s (tl_TxnMetadataKey (decP fs_TxnMetadataKey 0 false (kV ⟨s, false, !s.isEmpty⟩).2).1).nul (tl_TxnMetadataKey (decP fs_TxnMetadataKey 0 false (kV ⟨s, false, !s.isEmpty⟩).2).1).l (tl_TxnMetadataKey (decP fs_TxnMetadataKey 0 false (kV ⟨s, false, !s.isEmpty⟩).2).1).u
theorem im_TxnMetadataKey {H : Fz} {L : Own} {a : Option Addr} {c t : Nat} {s : List UInt8} {ev : Value} (hB : BytesAt H a c s) (hs : s.length ≤ 68719476736) (he : H.at 0 0 [.iface t ev]) :
    Fn Tryd.prog 35 [.slice a s.length c] H L (fun r H' L' => L = L' ∧ ((decP fs_TxnMetadataKey 0 false (kV ⟨s, false, !s.isEmpty⟩).2).2.bad = true ∧ r = .tuple #[.agg #[.int .i64 0, .slice none 0 0, .bool false, .slice none 0 0, .slice none 0 0], .bool false] ∨ (decP fs_TxnMetadataKey 0 false (kV ⟨s, false, !s.isEmpty⟩).2).2.bad = false ∧ ∃ c : TC, r = .tuple #[.agg (c.cells (tk_TxnMetadataKey s)).toArray, .bool true] ∧ TreeAt H' c (tk_TxnMetadataKey s))) := by
  refine Fn.mk Tryd.call35 Tryd.func35 rfl Tryd.ntmps35 rfl ?_
  refine sr ?_
  refine al Tryd.zeroValue37 rfl rfl (fun b_1 => ?_)
  refine asg rfl rfl ?_
  refine nl ?_
  refine sr ?_
  refine cl rfl rfl rfl new_TxnMetadataKey rfl (fun v_ H1 L1 hle hR => ?_)
  obtain ⟨rfl, rfl, rfl⟩ := hR
  refine al Tryd.zeroValue86 rfl rfl (fun b_2 => ?_)
  refine sa Tryd.sizeOf86 rfl rfl rfl rfl rfl .head ?_
  refine nl ?_
  refine sq ?_
  refine sr ?_
  refine mv rfl rfl ?_
  refine nilL ?_
  refine ap (news := bytesOf s) Tryd.underlying22 I5 rfl rfl (Row.nil _ _) (fun _ => .head) (src_bytes Tryd.underlying22 hB rfl) (by omega) (by unfold maxLen; omega) rfl (fun a8 c8 N8 r8 z8 => ?_)
  rw [Nat.zero_add] at r8 ⊢
  rw [List.nil_append] at r8
  refine frL r8 .head (fun H2 le2 z2 => ?_)
  have y2 := BytesAt.row z2 r8 (by unfold B47; omega)
  have en_ : (!a8.isNone) = !s.isEmpty := isNone_app (by simpa using z8) rfl
  refine cl rfl rfl rfl (rf_TxnMetadataKey y2 (by unfold BR; omega) (he.mono le2)) rfl (fun r_ H3 L3 le3 hR => ?_)
  obtain ⟨cs, rfl, hE⟩ := hR
  rw [en_] at hE
  rcases hE with ⟨hb, rfl⟩ | ⟨hb, rfl, hA⟩
  · skip
    refine nei1 Tryd.underlying55 rfl rfl ?_
    refine nl ?_
    refine cT rfl ?_
    refine sr ?_
    refine bd' S37 rfl rfl rfl ?_
    refine sa Tryd.sizeOf37 rfl rfl rfl rfl rfl (.tail .head) ?_
    refine asg rfl rfl ?_
    refine nl ?_
    refine drW .head ?_
    exact rCT rfl Tryd.isAgg37 Tryd.sizeOf37 rfl rfl .head rfl (le2.trans le3) (fun _ _ h => h) ⟨rfl, .inl ⟨hb, rfl⟩⟩
  · skip
    refine nei0 Tryd.underlying55 rfl rfl ?_
    refine nl ?_
    refine cF rfl ?_
    refine skt ?_
    refine sr ?_
    have hA2 := hA
    unfold At_TxnMetadataKey at hA2
    subst hA2
    refine frL (Row.whole (size := 2) (m := 1) rfl (by decide)) .head (fun H4 le4 z4 => ?_)
    have hv := (show H4.at b_2 0 _ by
      rcases z4 with ⟨h, _⟩ | ⟨g, h, h2⟩
      · cases h
      · cases h; exact h2)
    refine cl rfl rfl rfl (te_TxnMetadataKey hv (At_TxnMetadataKey.mono _ _ _ _ _ le4 hA) (decP_fits good_TxnMetadataKey _ (by show (kV ⟨s, false, !s.isEmpty⟩).2.s.length ≤ 1000000000000; have h9 := decV_shr (kind := 2) (nul := false) (flex := false) (fun r => decP_shr [] 0 false r) ⟨s, false, !s.isEmpty⟩; have h8 : (kV ⟨s, false, !s.isEmpty⟩).2.s.length ≤ s.length := h9; omega) hb)) rfl (fun v_ H5 L5 le5 hR => ?_)
    obtain ⟨rfl, c5, rfl, g5⟩ := hR
    refine al Tryd.zeroValue37 rfl rfl (fun b_3 => ?_)
    refine sa Tryd.sizeOf37 rfl rfl rfl rfl rfl .head ?_
    refine nl ?_
    refine sr ?_
    refine fa0 F86_0 rfl rfl ?_
    refine ld (Says.fz (hv.mono le5)) Tryd.isAgg47 rfl (Nat.zero_add _).symm rfl rfl ?_
    refine cv Tryd.runUnderlying47 Tryd.runUnderlying2 rfl (i16_64 _) rfl ?_
    refine fa0 F37_0 rfl rfl ?_
    refine st Tryd.sizeOf2 rfl rfl rfl rfl .head ?_
    refine nl ?_
    refine sr ?_
    refine la (Says.own .head) Tryd.isAgg37 Tryd.sizeOf37 rfl (Nat.zero_add _).symm rfl rfl ?_
    refine sa Tryd.sizeOf37 rfl rfl rfl rfl rfl (.tail .head) ?_
    refine asg rfl rfl ?_
    refine nl ?_
    refine drW .head ?_
    exact rCT rfl Tryd.isAgg37 Tryd.sizeOf37 rfl rfl .head rfl (le2.trans (le3.trans (le4.trans le5))) (fun _ _ h => h) ⟨rfl, .inr ⟨hb, c5, rfl, TreeAt.of g5.s g5.l g5.u⟩⟩
theorem law_TxnMetadataKey {H : Fz} {L : Own} {c : TC} {t : Tr} {n tt : Nat} {ev : Value} (hT : TreeAt H c t) (hn : n < 256) (hR : Ran t) (he : H.at 0 0 [.iface tt ev]) (hbv : ((Msg.mk fs_TxnMetadataKey (-1)).kept 0 t).length ≤ 68719476736) :
    Fn Tryd.prog 9 [.int .u8 (n : Int), .agg (c.cells t).toArray] H L (fun r H' L' => L = L' ∧ r = .bool true) := by
  have hgd : RdGood 0 ((Msg.mk fs_TxnMetadataKey (-1)).flexible 0) fs_TxnMetadataKey := RdGood.of (by decide +kernel)
  have kvq : kV ⟨((Msg.mk fs_TxnMetadataKey (-1)).kept 0 t), false, !((Msg.mk fs_TxnMetadataKey (-1)).kept 0 t).isEmpty⟩ = (.mk 0 [] false [] [], ⟨(Msg.mk fs_TxnMetadataKey (-1)).write 0 t, false, true⟩) := by
    unfold kV Msg.kept
    rw [dV2, rN_fixed]
    rw [back16]
    rfl
  obtain ⟨g, nn_, e1, e2, e3⟩ := read_back hgd t hR true []
  rw [List.append_nil] at e1
  have e4 : decP fs_TxnMetadataKey 0 false (kV ⟨((Msg.mk fs_TxnMetadataKey (-1)).kept 0 t), false, !((Msg.mk fs_TxnMetadataKey (-1)).kept 0 t).isEmpty⟩).2 = (g, ⟨[], false, nn_⟩) := by rw [kvq]; exact e1
  have hgn : g.n = 0 := by have h := congrArg (fun d : Tr × Rd => d.1.n) e4; exact h.symm
  cases g with
  | mk gn gs gb gl gu =>
  simp only [Tr.n] at hgn
  subst hgn
  have e5 : tk_TxnMetadataKey ((Msg.mk fs_TxnMetadataKey (-1)).kept 0 t) = .mk 0 gs gb gl gu := by unfold tk_TxnMetadataKey; rw [tld_TxnMetadataKey (v := 0) (flex := false) hgd rfl, e4, kvq]; rfl
  refine Fn.mk Tryd.call9 Tryd.func9 rfl Tryd.ntmps9 rfl ?_
  refine sr ?_
  refine bx rfl rfl rfl (fun b_1 => ?_)
  refine asg rfl rfl ?_
  refine nl ?_
  refine sq ?_
  refine sr ?_
  refine la (Says.own .head) Tryd.isAgg26 Tryd.sizeOf26 rfl (Nat.zero_add _).symm rfl rfl ?_
  refine cl rfl rfl rfl (s_fits1 hT) rfl (fun v_ H1 L1 le_2 hQ => ?_)
  obtain ⟨rfl, rfl, b10, rfl⟩ := hQ
  refine nt rfl rfl ?_
  refine nl ?_
  refine cb rfl (fun h11 => ?_) (fun h11 => ?_)
  · skip
    refine sr ?_
    refine asg rfl rfl ?_
    refine nl ?_
    refine drW .head ?_
    exact rT rfl rfl (Fz.le.refl _) (fun _ _ h => h) ⟨rfl, rfl⟩
  · skip
    refine skt ?_
    refine sr ?_
    refine cl rfl rfl rfl s_TxnMetadataKey rfl (fun v_ H1 L1 le_3 hQ => ?_)
    obtain ⟨rfl, af, rfl, hF⟩ := hQ
    refine mv rfl rfl ?_
    refine cv Tryd.runUnderlying5 Tryd.runUnderlying3 rfl (w64 (by omega) (by omega)) rfl ?_
    refine rm (c := 0) rfl rfl (by omega) (by rw [Int.tmod_eq_emod_of_nonneg (by omega)]; simp) rfl ?_
    refine al Tryd.zeroValue31 rfl rfl (fun b_4 => ?_)
    refine sa Tryd.sizeOf31 rfl rfl rfl rfl rfl .head ?_
    refine asg rfl rfl ?_
    refine nl ?_
    refine sr ?_
    refine la (Says.own .head) Tryd.isAgg31 Tryd.sizeOf31 rfl (Nat.zero_add _).symm rfl rfl ?_
    refine mv rfl rfl ?_
    refine la (Says.own (.tail .head)) Tryd.isAgg26 Tryd.sizeOf26 rfl (Nat.zero_add _).symm rfl rfl ?_
    refine cl rfl rfl rfl (s_kept (m := (Msg.mk fs_TxnMetadataKey (-1))) (ver := 0) hF (hT.mono le_3) (by unfold B46; omega)) rfl (fun v_ H1 L1 le_5 hQ => ?_)
    obtain ⟨aw, cw, Nw, rfl, rfl, hw_⟩ := hQ
    refine frL hw_.1 .head (fun H9 le9 z9 => ?_)
    have y9 := BytesAt.row z9 hw_.1 (by unfold B47; omega)
    refine cl rfl rfl rfl (im_TxnMetadataKey y9 hbv (he.mono (le_3.trans (le_5.trans le9)))) rfl (fun r_ H3 L3 le_6 hQ => ?_)
    obtain ⟨rfl, hQ⟩ := hQ
    rcases hQ with ⟨hb1, rfl⟩ | ⟨hb1, c1, rfl, g1⟩
    · rw [e4] at hb1; cases hb1
    rw [e5] at g1 ⊢
    refine mv rfl rfl ?_
    refine extr rfl rfl rfl ?_
    refine extr rfl rfl rfl ?_
    refine al Tryd.zeroValue37 rfl rfl (fun b_7 => ?_)
    refine sa Tryd.sizeOf37 rfl rfl rfl rfl rfl .head ?_
    refine asg rfl rfl ?_
    refine nl ?_
    refine sq ?_
    refine rgD 20 (.keep (.keep (.keep .nil))) mixed ?_
    refine dT 0 rfl rfl rfl (by kernel_rfl) (fun _ _ _ h => h) (y_mv rfl) (.keep (.keep (.keep .nil))) (Fz.le.refl _) ?_
    refine dT 1 rfl rfl rfl (by kernel_rfl) (fun _ _ _ h => h) (y_mv rfl) (.keep (.keep (.keep .nil))) (Fz.le.refl _) ?_
    refine dT 2 rfl rfl rfl (by kernel_rfl) (fun _ _ _ h => h) (y_gr rfl rfl (y_fa0 F37_0 rfl)) (.keep (.keep (.keep .nil))) (Fz.le.refl _) ?_
    refine dT 3 rfl rfl rfl (by kernel_rfl) (fun _ _ _ h => h) (y_gr rfl rfl (y_ld (Says.own .head) Tryd.isAgg2 rfl (Nat.zero_add _).symm rfl)) (.keep (.keep (.keep .nil))) (Fz.le.refl _) ?_
    refine dT 4 rfl rfl rfl (by kernel_rfl) (fun _ _ _ h => h) (y_gr rfl rfl (y_mv rfl)) (.keep (.keep (.keep .nil))) (Fz.le.refl _) ?_
    refine dT 5 rfl rfl rfl (by kernel_rfl) (fun _ _ _ h => h) (y_gr rfl rfl (y_eq rfl rfl)) (.keep (.keep (.keep .nil))) (Fz.le.refl _) ?_
    refine dT 6 rfl rfl rfl (by kernel_rfl) (fun _ _ _ h => h) (y_pk rfl rfl rfl) (.keep (.keep (.keep .nil))) (Fz.le.refl _) ?_
    refine dT 7 rfl rfl rfl (by kernel_rfl) (fun _ _ _ h => h) (y_mv rfl) (.keep (.keep (.keep .nil))) (Fz.le.refl _) ?_
    refine dT 8 rfl rfl rfl (by kernel_rfl) (fun _ _ _ h => h) (y_gr rfl rfl (y_fa0 F31_0 rfl)) (.keep (.keep (.keep .nil))) (Fz.le.refl _) ?_
    refine dT 9 rfl rfl rfl (by kernel_rfl) (fun _ _ _ h => h) (y_gr rfl rfl (y_ld (Says.own (.tail .head)) Tryd.isAgg29 rfl (Nat.zero_add _).symm rfl)) (.keep (.keep (.keep .nil))) (Fz.le.refl _) ?_
    refine dT 10 rfl rfl rfl (by kernel_rfl) (fun _ _ _ h => h) (y_gr rfl rfl (y_mv rfl)) (.keep (.keep (.keep .nil))) (Fz.le.refl _) ?_
    refine dT 11 rfl rfl rfl (by kernel_rfl) (fun _ _ _ h => h) (y_gr rfl rfl (y_la (Says.own (.tail .head)) Tryd.isAgg31 Tryd.sizeOf31 rfl (Nat.zero_add _).symm rfl)) (.keep (.keep (.keep .nil))) (Fz.le.refl _) ?_
    refine dT 12 rfl rfl rfl (by kernel_rfl) (fun _ _ _ h => h) (y_gr rfl rfl (y_mv rfl)) (.keep (.keep (.keep .nil))) (Fz.le.refl _) ?_
    refine dT 14 rfl rfl rfl (by kernel_rfl) (fun _ _ _ h => h) (y_gr rfl rfl (y_la (Says.own (.tail (.tail .head))) Tryd.isAgg26 Tryd.sizeOf26 rfl (Nat.zero_add _).symm rfl)) (.keep (.keep (.keep .nil))) (Fz.le.refl _) ?_
    refine dT 15 rfl rfl rfl (by kernel_rfl) (fun _ _ _ h => h) (y_gr rfl rfl (y_la (Says.own .head) Tryd.isAgg37 Tryd.sizeOf37 rfl (Nat.zero_add _).symm rfl)) (.keep (.keep (.keep .nil))) (Fz.le.refl _) ?_
    refine dE 13 (by kernel_rfl) rfl ?_
    refine gr rfl rfl ?_
    refine cl rfl rfl rfl (s_flexible (m := (Msg.mk fs_TxnMetadataKey (-1)))) rfl (fun v_ H1 L1 le_8 hQ => ?_)
    obtain ⟨rfl, rfl, rfl⟩ := hQ
    refine dN (.keep (.keep (.keep .nil))) (Fz.le.refl _) ?_
    refine dE 16 (by kernel_rfl) rfl ?_
    refine gr rfl rfl ?_
    refine cl rfl rfl rfl (s_got _ g1) rfl (fun v_ H1 L1 le_9 hQ => ?_)
    obtain ⟨rfl, cq, rfl, kq⟩ := hQ
    refine dN (.keep (.keep (.keep .nil))) le_9 ?_
    refine dE 17 (by kernel_rfl) rfl ?_
    refine gr rfl rfl ?_
    refine cl rfl rfl rfl (s_Told hgd (hF.mono (le_5.trans (le9.trans (le_6.trans le_9)))) (hT.mono (le_3.trans (le_5.trans (le9.trans (le_6.trans le_9))))) kq e2) rfl (fun v_ H1 L1 le_10 hQ => ?_)
    obtain ⟨rfl, rfl⟩ := hQ
    refine dN (.keep (.keep (.keep .nil))) (le_9.trans le_10) ?_
    refine dT 18 rfl rfl rfl (by kernel_rfl) (fun _ _ _ h => h) (y_pk rfl rfl rfl) (.keep (.keep (.keep .nil))) (le_9.trans le_10) ?_
    refine dT 19 rfl rfl rfl (by kernel_rfl) (fun _ _ _ h => h) (y_asg rfl) (.keep (.keep (.keep .nil))) (le_9.trans le_10) ?_
    refine dD (by kernel_rfl) ?_
    refine Nt ?_
    refine drW .head ?_
    refine drW .head ?_
    refine drW .head ?_
    exact rT rfl rfl (le_3.trans (le_5.trans (le9.trans (le_6.trans (le_9.trans le_10))))) (fun _ _ h => h) ⟨rfl, rfl⟩
end Go.Sx

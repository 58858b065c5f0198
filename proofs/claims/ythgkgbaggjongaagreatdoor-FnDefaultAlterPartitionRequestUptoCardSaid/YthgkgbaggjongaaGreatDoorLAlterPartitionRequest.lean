import Derived.Test.YthgkgbaggjongaaGreatDoorSxTab
import Derived.Test.YthgkgbaggjongaaGreatDoorCAlterPartitionRequest
import Derived.Test.YthgkgbaggjongaaGreatDoorDAlterPartitionRequest
import Derived.Test.YthgkgbaggjongaaGreatDoorMAlterPartitionRequest
import Derived.Test.YthgkgbaggjongaaGreatDoorBeL
import Derived.Test.YthgkgbaggjongaaGreatDoorLibI
import Derived.Test.YthgkgbaggjongaaGreatDoorS4
import Derived.Test.YthgkgbaggjongaaGreatDoorS10
import Derived.KernelRfl
set_option linter.unusedVariables false
set_option linter.unusedSimpArgs false
set_option maxRecDepth 100000
set_option maxHeartbeats 20000000
namespace Go.Sx
open Go.Proofs
theorem good_AlterPartitionRequest : Good fs_AlterPartitionRequest := Good.of (by decide) (by decide)
theorem setv_AlterPartitionRequest {H : Fz} {L : Own} {b : Nat} {x : Int} {c0 c1 c2 c3 c4 : Value} :
  Fn Tryz.prog 112 [.pointer (some ⟨b, 0, none⟩), .int .i16 x] H ([(b, .cells [c0, c1, c2, c3, c4].toArray 196 (0, 0))] :: L) (fun _ H' L' => H = H' ∧ L' = [(b, .cells [.int .i16 x, c1, c2, c3, c4].toArray 196 (0, 0))] :: L) := by
 refine Fn.mk Tryz.call112 Tryz.func112 rfl Tryz.ntmps112 rfl ?_
 refine rg ?_
 refine mv rfl rfl ?_
 refine mv rfl rfl ?_
 refine nc rfl rfl ?_
 refine fa0 F196_0 rfl rfl ?_
 refine st Tryz.sizeOf51 rfl rfl rfl rfl .head ?_
 refine nN ?_
 exact fun _ _ hA hw => rn rfl (Fz.le.refl _) ⟨rfl, rfl⟩ hA hw
theorem new_AlterPartitionRequest {H : Fz} {L : Own} :
  Fn Tryz.prog 109 [] H L (fun v H' L' => H = H' ∧ ∃ b, v = .pointer (some ⟨b, 0, none⟩) ∧ L' = [(b, .cells [.int .i16 0, .int .i32 0, .int .i64 (-1), .slice none 0 0, .map none].toArray 196 (0, 0))] :: L) := by
 refine Fn.mk Tryz.call109 Tryz.func109 rfl Tryz.ntmps109 rfl ?_
 refine sr ?_
 refine asg rfl rfl ?_
 refine nl ?_
 refine sr ?_
 refine al Tryz.zeroValue196 rfl rfl (fun b_1 => ?_)
 refine nl ?_
 refine sr ?_
 refine cl rfl rfl rfl def0_AlterPartitionRequest rfl (fun v H1 L1 hle hR => ?_)
 obtain ⟨rfl, rfl⟩ := hR
 refine nl ?_
 refine sr ?_
 refine asg rfl rfl ?_
 refine nl ?_
 exact rT rfl rfl (Fz.le.refl _) (fun _ _ h => h) ⟨rfl, _, rfl, rfl⟩
theorem maxv_AlterPartitionRequest {H : Fz} {L : Own} {p : Value} :
  Fn Tryz.prog 110 [p] H L (fun v H' L' => H = H' ∧ L = L' ∧ v = .int .i16 3) := by
 refine Fn.mk Tryz.call110 Tryz.func110 rfl Tryz.ntmps110 rfl ?_
 refine sr ?_
 refine asg rfl rfl ?_
 refine nl ?_
 refine sr ?_
 refine asg rfl rfl ?_
 refine nl ?_
 exact rT rfl rfl (Fz.le.refl _) (fun _ _ h => h) ⟨rfl, rfl, rfl⟩
theorem max_AlterPartitionRequest {H : Fz} {L : Own} :
  Fn Tryz.prog 41 [] H L (fun v H' L' => H = H' ∧ L = L' ∧ v = .int .i64 3) := by
 refine Fn.mk Tryz.call41 Tryz.func41 rfl Tryz.ntmps41 rfl ?_
 refine sr ?_
 refine asg rfl rfl ?_
 refine nl ?_
 refine sr ?_
 refine cl rfl rfl rfl new_AlterPartitionRequest rfl (fun v H1 L1 hle hR => ?_)
 obtain ⟨rfl, b, rfl, rfl⟩ := hR
 refine cl rfl rfl rfl maxv_AlterPartitionRequest rfl (fun v H1 L1 hle hR => ?_)
 obtain ⟨rfl, rfl, rfl⟩ := hR
 refine cv Tryz.runUnderlying51 Tryz.runUnderlying3 rfl (w64 (by omega) (by omega)) rfl ?_
 refine asg rfl rfl ?_
 refine nl ?_
 refine drW .head ?_
 exact rT rfl rfl (Fz.le.refl _) (fun _ _ h => h) ⟨rfl, rfl, rfl⟩
theorem rdj_AlterPartitionRequest {H : Fz} {L : Own} {b : Nat} {v : Int} {a : Option Addr} {c : Nat} {s : List UInt8} {e : Value} (hB : BytesAt H a c s) (hL_ : s.length ≤ BR) (he : H.at 1 0 [e]) (h0 : 0 ≤ v) (h1 : v ≤ 3) :
  Fn Tryz.prog 186 [.pointer (some ⟨b, 0, none⟩), .slice a s.length c, .bool false] H ([(b, .cells [.int .i16 v, .int .i32 0, .int .i64 (-1), .slice none 0 0, .map none].toArray 196 (0, 0))] :: L) (fun r H' L' => ∃ cs : List Value, L' = [(b, .cells cs.toArray 196 (0, 0))] :: L ∧ RdEnd H' (At_AlterPartitionRequest v) (decP fs_AlterPartitionRequest v ((Msg.mk fs_AlterPartitionRequest 0).flexible v) ⟨s, false, !a.isNone⟩) e r cs) := by
 have ef : (Msg.mk fs_AlterPartitionRequest 0).flexible v = true := by simp [Msg.flexible]; omega
 rw [ef]
 exact rd_AlterPartitionRequest_t hB hL_ he (by omega) (by omega)
theorem rf_AlterPartitionRequest {H : Fz} {L : Own} {b : Nat} {v : Int} {a : Option Addr} {c : Nat} {s : List UInt8} {e : Value} (hB : BytesAt H a c s) (hL_ : s.length ≤ BR) (he : H.at 1 0 [e]) (h0 : 0 ≤ v) (h1 : v ≤ 3) :
  Fn Tryz.prog 113 [.pointer (some ⟨b, 0, none⟩), .slice a s.length c] H ([(b, .cells [.int .i16 v, .int .i32 0, .int .i64 (-1), .slice none 0 0, .map none].toArray 196 (0, 0))] :: L) (fun r H' L' => ∃ cs : List Value, L' = [(b, .cells cs.toArray 196 (0, 0))] :: L ∧ RdEnd H' (At_AlterPartitionRequest v) (decP fs_AlterPartitionRequest v ((Msg.mk fs_AlterPartitionRequest 0).flexible v) ⟨s, false, !a.isNone⟩) e r cs) := by
 refine Fn.mk Tryz.call113 Tryz.func113 rfl Tryz.ntmps113 rfl ?_
 refine sr ?_
 refine asg rfl rfl ?_
 refine nl ?_
 refine sr ?_
 refine mv rfl rfl ?_
 refine mv rfl rfl ?_
 refine cl rfl rfl rfl (rdj_AlterPartitionRequest hB hL_ he h0 h1) rfl (fun v_ H1 L1 le1 hR => ?_)
 obtain ⟨cs, rfl, hE⟩ := hR
 refine asg rfl rfl ?_
 refine nl ?_
 exact rT rfl rfl le1 (fun _ _ h => h) ⟨_, rfl, hE⟩
def dT_AlterPartitionRequest (T : Tr) : Tr := .mk 0 [] false [(T.at 0), (.mk (-1) [] false [] []), (T.at 2)] T.u
theorem dF_AlterPartitionRequest {T : Tr} (h : Fits T) : Fits (dT_AlterPartitionRequest T) := by
 refine .mk _ (by simp [dT_AlterPartitionRequest, Tr.s]) (by simp [dT_AlterPartitionRequest, Tr.l]) h.u h.v (fun x hx => ?_)
 simp only [dT_AlterPartitionRequest, Tr.l, List.mem_cons, List.not_mem_nil, or_false] at hx
 rcases hx with rfl | rfl | rfl
 · exact h.at 0
 · exact .mk _ (by simp [Tr.s]) (by simp [Tr.l]) (by simp [Tr.u]) (fun p hp => by simp [Tr.u] at hp) (fun x hx => by simp [Tr.l] at hx)
 · exact h.at 2
theorem df_AlterPartitionRequest {H : Fz} {L : Own} {v : Int} {a : Option Addr} {c t : Nat} {s : List UInt8} {ev : Value} (hB : BytesAt H a c s) (hs : s.length ≤ 68719476736) (he : H.at 1 0 [.iface t ev]) (h0 : 0 ≤ v) (h1 : v ≤ 3) (hgood : (decP fs_AlterPartitionRequest v ((Msg.mk fs_AlterPartitionRequest 0).flexible v) ⟨s, false, !s.isEmpty⟩).2.bad = false) :
  Fn Tryz.prog 43 [.int .i64 v, .slice a s.length c] H L (fun r H' L' => L = L' ∧ ∃ c : TC, r = .tuple #[.agg (c.cells (tl_AlterPartitionRequest (dT_AlterPartitionRequest (decP fs_AlterPartitionRequest v ((Msg.mk fs_AlterPartitionRequest 0).flexible v) ⟨s, false, !s.isEmpty⟩).1))).toArray, .bool true] ∧ TreeAt H' c (tl_AlterPartitionRequest (dT_AlterPartitionRequest (decP fs_AlterPartitionRequest v ((Msg.mk fs_AlterPartitionRequest 0).flexible v) ⟨s, false, !s.isEmpty⟩).1))) := by
 refine Fn.mk Tryz.call43 Tryz.func43 rfl Tryz.ntmps43 rfl ?_
 refine sr ?_
 refine al Tryz.zeroValue37 rfl rfl (fun b_1 => ?_)
 refine asg rfl rfl ?_
 refine nl ?_
 refine sr ?_
 refine cl rfl rfl rfl new_AlterPartitionRequest rfl (fun v_ H1 L1 hle hR => ?_)
 obtain ⟨rfl, b, rfl, rfl⟩ := hR
 refine asg rfl rfl ?_
 refine nl ?_
 refine sr ?_
 refine mv rfl rfl ?_
 refine mv rfl rfl ?_
 refine cv Tryz.runUnderlying3 Tryz.runUnderlying51 rfl (wrap_i16 (by omega) (by omega)) rfl ?_
 refine cl rfl rfl rfl setv_AlterPartitionRequest rfl (fun v_ H1 L1 hle hR => ?_)
 obtain ⟨rfl, rfl⟩ := hR
 refine nl ?_
 refine sq ?_
 refine sr ?_
 refine mv rfl rfl ?_
 refine mv rfl rfl ?_
 refine nilL ?_
 refine ap (news := bytesOf s) Tryz.underlying22 I5 rfl rfl (Row.nil _ _) (fun _ => .head) (src_bytes Tryz.underlying22 hB rfl) (by omega) (by unfold maxLen; omega) rfl (fun a14 c14 N14 r14 z14 => ?_)
 rw [Nat.zero_add] at r14 ⊢
 rw [List.nil_append] at r14
 refine frL r14 .head (fun H2 le2 z2 => ?_)
 have y2 := BytesAt.row z2 r14 (by unfold B47; omega)
 have en_ : (!a14.isNone) = !s.isEmpty := isNone_app (by simpa using z14) rfl
 refine cl rfl rfl rfl (rf_AlterPartitionRequest y2 (by unfold BR; omega) (he.mono le2) h0 h1) rfl (fun r_ H3 L3 le3 hR => ?_)
 obtain ⟨cs, rfl, hE⟩ := hR
 rw [en_] at hE
 rcases hE with ⟨hb, rfl⟩ | ⟨hb, rfl, hA⟩
 · rw [hgood] at hb; cases hb
 refine nei0 Tryz.underlying60 rfl rfl ?_
 refine nl ?_
 refine cF rfl ?_
 refine skt ?_
 refine sr ?_
 refine mv rfl rfl ?_
 obtain ⟨TT, hTT⟩ : ∃ x, x = (decP fs_AlterPartitionRequest v ((Msg.mk fs_AlterPartitionRequest 0).flexible v) ⟨s, false, !s.isEmpty⟩).1 := ⟨_, rfl⟩
 rw [← hTT] at hA
 have hft_ : Fits TT := by rw [hTT]; exact decP_fits good_AlterPartitionRequest _ (by show s.length ≤ 1000000000000; omega) hb
 obtain ⟨a2, c2, mt, rfl, hf0, hf1⟩ := hA
 refine cl rfl rfl rfl def0_AlterPartitionRequest rfl (fun v_ H1 L1 hle hR => ?_)
 obtain ⟨rfl, rfl⟩ := hR
 refine nl ?_
 refine sr ?_
 refine mv rfl rfl ?_
 refine frL (Row.whole (size := 5) (m := 1) rfl (by decide)) .head (fun H4 le4 z4 => ?_)
 have hv : H4.at b 0 [.int .i16 v, .int .i32 (IntKind.i32.wrap (TT.at 0).n), .int .i64 (-1), .slice a2 (lT (TT.at 2)).length c2, .map mt] := by
  rcases z4 with ⟨h, _⟩ | ⟨g, h, h2⟩
  · cases h
  · cases h; exact h2
 have hA4 : At_AlterPartitionRequest v H4 (dT_AlterPartitionRequest TT) [.int .i16 v, .int .i32 (IntKind.i32.wrap (TT.at 0).n), .int .i64 (-1), .slice a2 (lT (TT.at 2)).length c2, .map mt] := ⟨a2, c2, mt, rfl, (hf0.mono At_AlterPartitionRequestTopic.mono le4), (hf1.mono le4)⟩
 refine cl rfl rfl rfl (te_AlterPartitionRequest hv hA4 (dF_AlterPartitionRequest hft_)) rfl (fun v_ H5 L5 le5 hR => ?_)
 obtain ⟨rfl, c5, rfl, g5⟩ := hR
 rw [hTT] at g5 ⊢
 refine sa Tryz.sizeOf37 rfl rfl rfl rfl rfl .head ?_
 refine asg rfl rfl ?_
 refine nl ?_
 exact rCT rfl Tryz.isAgg37 Tryz.sizeOf37 rfl rfl .head rfl (le2.trans (le3.trans (le4.trans le5))) (fun _ _ h => h) ⟨rfl, c5, rfl, g5⟩
theorem rdg_AlterPartitionRequest {v : Int} (h0 : 0 ≤ v) (h1 : v ≤ 3) : RdGood v ((Msg.mk fs_AlterPartitionRequest 0).flexible v) fs_AlterPartitionRequest := by
 refine RdGood.of ?_
 have hv : v = 0 ∨ v = 1 ∨ v = 2 ∨ v = 3 := by omega
 rcases hv with rfl | rfl | rfl | rfl <;> decide +kernel
theorem law_AlterPartitionRequest {H : Fz} {L : Own} {c : TC} {t : Tr} {n tt : Nat} {ev : Value} (hT : TreeAt H c t) (hn : n < 256) (hR : Ran t) (he : H.at 1 0 [.iface tt ev]) (hb : ∀ v : Int, 0 ≤ v → v ≤ 3 → ((Msg.mk fs_AlterPartitionRequest 0).write v t).length ≤ 68719476736) :
  Fn Tryz.prog 10 [.int .u8 (n : Int), .agg (c.cells t).toArray] H L (fun r H' L' => L = L' ∧ r = .bool true) := by
 have h0 : (0 : Int) ≤ ((n % (3 + 1) : Nat) : Int) := by omega
 have h1 : ((n % (3 + 1) : Nat) : Int) ≤ 3 := by omega
 have hbv := hb _ h0 h1
 have hgd := rdg_AlterPartitionRequest h0 h1
 obtain ⟨nn_, e1⟩ := read_bk hgd t hR (!((Msg.mk fs_AlterPartitionRequest 0).write ((n % (3 + 1) : Nat) : Int) t).isEmpty) []
 rw [List.append_nil] at e1
 have e4 : (decP fs_AlterPartitionRequest ((n % (3 + 1) : Nat) : Int) ((Msg.mk fs_AlterPartitionRequest 0).flexible ((n % (3 + 1) : Nat) : Int)) ⟨((Msg.mk fs_AlterPartitionRequest 0).write ((n % (3 + 1) : Nat) : Int) t), false, !((Msg.mk fs_AlterPartitionRequest 0).write ((n % (3 + 1) : Nat) : Int) t).isEmpty⟩).2.bad = false := by
  have h : (decP fs_AlterPartitionRequest ((n % (3 + 1) : Nat) : Int) ((Msg.mk fs_AlterPartitionRequest 0).flexible ((n % (3 + 1) : Nat) : Int)) ⟨((Msg.mk fs_AlterPartitionRequest 0).write ((n % (3 + 1) : Nat) : Int) t), false, !((Msg.mk fs_AlterPartitionRequest 0).write ((n % (3 + 1) : Nat) : Int) t).isEmpty⟩) = _ := e1
  rw [h]
 have hdf : ∀ x : Tr, ∀ j (hj : j < fs_AlterPartitionRequest.length), (fs_AlterPartitionRequest[j]).df ≠ 0 → ((tl_AlterPartitionRequest (dT_AlterPartitionRequest x)).at j).n = numK (fs_AlterPartitionRequest[j]).kind (fs_AlterPartitionRequest[j]).df := by
  intro x j hj h
  have hj2 : j = 0 ∨ j = 1 ∨ j = 2 := by have h2 : j < 3 := hj; omega
  rcases hj2 with rfl | rfl | rfl
  all_goals first | exact absurd rfl h | rfl
 refine Fn.mk Tryz.call10 Tryz.func10 rfl Tryz.ntmps10 rfl ?_
 refine sr ?_
 refine bx rfl rfl rfl (fun b_1 => ?_)
 refine asg rfl rfl ?_
 refine nl ?_
 refine sq ?_
 refine sr ?_
 refine la (Says.own .head) Tryz.isAgg26 Tryz.sizeOf26 rfl (Nat.zero_add _).symm rfl rfl ?_
 refine cl rfl rfl rfl (s_fits1 hT) rfl (fun v_ H1 L1 le_2 hQ => ?_)
 obtain ⟨rfl, rfl, b11, rfl⟩ := hQ
 refine nt rfl rfl ?_
 refine nl ?_
 refine cb rfl (fun h12 => ?_) (fun h12 => ?_)
 ·
  refine sr ?_
  refine asg rfl rfl ?_
  refine nl ?_
  refine drW .head ?_
  exact rT rfl rfl (Fz.le.refl _) (fun _ _ h => h) ⟨rfl, rfl⟩
 ·
  refine skt ?_
  refine sr ?_
  refine cl rfl rfl rfl max_AlterPartitionRequest rfl (fun v_ H1 L1 le_3 hQ => ?_)
  obtain ⟨rfl, rfl, rfl⟩ := hQ
  refine asg rfl rfl ?_
  refine nl ?_
  refine sq ?_
  refine sr ?_
  refine mv rfl rfl ?_
  refine lt rfl rfl rfl ?_
  refine nl ?_
  refine cd rfl (fun h15 => ?_) (fun h15 => ?_)
  ·
   exact absurd h15 (by decide)
  ·
   refine skt ?_
   refine sr ?_
   refine cl rfl rfl rfl s_AlterPartitionRequest rfl (fun v_ H1 L1 le_4 hQ => ?_)
   obtain ⟨rfl, af, rfl, hF⟩ := hQ
   refine mv rfl rfl ?_
   refine mv rfl rfl ?_
   refine cl rfl rfl rfl (s_version (n := n) (most := 3) hn (by omega)) rfl (fun v_ H1 L1 le_5 hQ => ?_)
   obtain ⟨rfl, rfl, rfl⟩ := hQ
   refine al Tryz.zeroValue31 rfl rfl (fun b_6 => ?_)
   refine sa Tryz.sizeOf31 rfl rfl rfl rfl rfl .head ?_
   refine asg rfl rfl ?_
   refine nl ?_
   refine sr ?_
   refine mv rfl rfl ?_
   refine la (Says.own .head) Tryz.isAgg31 Tryz.sizeOf31 rfl (Nat.zero_add _).symm rfl rfl ?_
   refine mv rfl rfl ?_
   refine la (Says.own (.tail .head)) Tryz.isAgg26 Tryz.sizeOf26 rfl (Nat.zero_add _).symm rfl rfl ?_
   refine cl rfl rfl rfl (s_write (m := (Msg.mk fs_AlterPartitionRequest 0)) hF (hT.mono le_4) (by unfold B46; omega)) rfl (fun v_ H1 L1 le_7 hQ => ?_)
   obtain ⟨aw, cw, Nw, rfl, rfl, hw_⟩ := hQ
   refine frL hw_.1 .head (fun H9 le9 z9 => ?_)
   have y9 := BytesAt.row z9 hw_.1 (by unfold B47; omega)
   refine cl rfl rfl rfl (df_AlterPartitionRequest y9 hbv (he.mono (le_4.trans (le_7.trans le9))) h0 h1 e4) rfl (fun r_ H3 L3 le_8 hQ => ?_)
   obtain ⟨rfl, c1, rfl, g1⟩ := hQ
   obtain ⟨g_, hg_⟩ : ∃ x, x = tl_AlterPartitionRequest (dT_AlterPartitionRequest (decP fs_AlterPartitionRequest ((n % (3 + 1) : Nat) : Int) ((Msg.mk fs_AlterPartitionRequest 0).flexible ((n % (3 + 1) : Nat) : Int)) ⟨((Msg.mk fs_AlterPartitionRequest 0).write ((n % (3 + 1) : Nat) : Int) t), false, !((Msg.mk fs_AlterPartitionRequest 0).write ((n % (3 + 1) : Nat) : Int) t).isEmpty⟩).1) := ⟨_, rfl⟩
   rw [← hg_] at g1 ⊢
   have hdg : ∀ j (hj : j < fs_AlterPartitionRequest.length), (fs_AlterPartitionRequest[j]).df ≠ 0 → (g_.at j).n = numK (fs_AlterPartitionRequest[j]).kind (fs_AlterPartitionRequest[j]).df := by rw [hg_]; exact hdf _
   refine mv rfl rfl ?_
   refine extr rfl rfl rfl ?_
   refine extr rfl rfl rfl ?_
   refine al Tryz.zeroValue37 rfl rfl (fun b_9 => ?_)
   refine sa Tryz.sizeOf37 rfl rfl rfl rfl rfl .head ?_
   refine asg rfl rfl ?_
   refine nl ?_
   refine sq ?_
   refine rgD 9 (.keep (.keep (.keep .nil))) mixed ?_
   refine dT 0 rfl rfl rfl (by kernel_rfl) (fun _ _ _ h => h) (y_mv rfl) (.keep (.keep (.keep .nil))) (Fz.le.refl _) ?_
   refine dT 1 rfl rfl rfl (by kernel_rfl) (fun _ _ _ h => h) (y_mv rfl) (.keep (.keep (.keep .nil))) (Fz.le.refl _) ?_
   refine dT 2 rfl rfl rfl (by kernel_rfl) (fun _ _ _ h => h) (y_gr rfl rfl (y_fa0 F31_0 rfl)) (.keep (.keep (.keep .nil))) (Fz.le.refl _) ?_
   refine dT 3 rfl rfl rfl (by kernel_rfl) (fun _ _ _ h => h) (y_gr rfl rfl (y_ld (Says.own (.tail .head)) Tryz.isAgg29 rfl (Nat.zero_add _).symm rfl)) (.keep (.keep (.keep .nil))) (Fz.le.refl _) ?_
   refine dT 4 rfl rfl rfl (by kernel_rfl) (fun _ _ _ h => h) (y_gr rfl rfl (y_la (Says.own .head) Tryz.isAgg37 Tryz.sizeOf37 rfl (Nat.zero_add _).symm rfl)) (.keep (.keep (.keep .nil))) (Fz.le.refl _) ?_
   refine dE 5 (by kernel_rfl) rfl ?_
   refine gr rfl rfl ?_
   refine cl rfl rfl rfl (s_got _ g1) rfl (fun v_ H1 L1 le_10 hQ => ?_)
   obtain ⟨rfl, cq, rfl, kq⟩ := hQ
   refine dN (.keep (.keep (.keep .nil))) le_10 ?_
   refine dE 6 (by kernel_rfl) rfl ?_
   refine gr rfl rfl ?_
   have hDf_ := fun L9 : Own => s_Defaults (L := L9) (c0 := 3) (fs := fs_AlterPartitionRequest) (hF.mono (le_7.trans (le9.trans (le_8.trans le_10)))) kq hdg
   refine cl rfl rfl rfl (hDf_ _) rfl (fun v_ H1 L1 le_11 hQ => ?_)
   obtain ⟨rfl, rfl⟩ := hQ
   refine dN (.keep (.keep (.keep .nil))) (le_10.trans le_11) ?_
   refine dT 7 rfl rfl rfl (by kernel_rfl) (fun _ _ _ h => h) (y_pk rfl rfl rfl) (.keep (.keep (.keep .nil))) (le_10.trans le_11) ?_
   refine dT 8 rfl rfl rfl (by kernel_rfl) (fun _ _ _ h => h) (y_asg rfl) (.keep (.keep (.keep .nil))) (le_10.trans le_11) ?_
   refine dD (by kernel_rfl) ?_
   refine Nt ?_
   refine drW .head ?_
   refine drW .head ?_
   refine drW .head ?_
   exact rT rfl rfl (le_4.trans (le_7.trans (le9.trans (le_8.trans (le_10.trans le_11))))) (fun _ _ h => h) ⟨rfl, rfl⟩
end Go.Sx

import Derived.Test.YthegbjcccjpbcaaGreatDoorSxTab
import Derived.Test.YthegbjcccjpbcaaGreatDoorCMetadataResponse
import Derived.Test.YthegbjcccjpbcaaGreatDoorDMetadataResponse
import Derived.Test.YthegbjcccjpbcaaGreatDoorPMetadataResponse
import Derived.Test.YthegbjcccjpbcaaGreatDoorMMetadataResponse
import Derived.Test.YthegbjcccjpbcaaGreatDoorS4
import Derived.Test.YthegbjcccjpbcaaGreatDoorS9
import Derived.KernelRfl
set_option linter.unusedVariables false
set_option linter.unusedSimpArgs false
set_option maxRecDepth 100000
set_option maxHeartbeats 20000000
namespace Go.Sx
open Go.Proofs
theorem good_MetadataResponse : Good fs_MetadataResponse := Good.of (by decide) (by decide)
theorem setv_MetadataResponse {H : Fz} {L : Own} {b : Nat} {x : Int} {c0 c1 c2 c3 c4 c5 c6 c7 c8 : Value} :
  Fn Tryz.prog 18 [.pointer (some ⟨b, 0, none⟩), .int .i16 x] H ([(b, .cells [c0, c1, c2, c3, c4, c5, c6, c7, c8].toArray 78 (0, 0))] :: L) (fun _ H' L' => H = H' ∧ L' = [(b, .cells [.int .i16 x, c1, c2, c3, c4, c5, c6, c7, c8].toArray 78 (0, 0))] :: L) := by
 refine Fn.mk Tryz.call18 Tryz.func18 rfl Tryz.ntmps18 rfl ?_
 refine rg ?_
 refine mv rfl rfl ?_
 refine mv rfl rfl ?_
 refine nc rfl rfl ?_
 refine fa0 F78_0 rfl rfl ?_
 refine st Tryz.sizeOf46 rfl rfl rfl rfl .head ?_
 refine nN ?_
 exact fun _ _ hA hw => rn rfl ler ⟨rfl, rfl⟩ hA hw
theorem new_MetadataResponse {H : Fz} {L : Own} :
  Fn Tryz.prog 14 [] H L (fun v H' L' => H = H' ∧ ∃ b, v = .pointer (some ⟨b, 0, none⟩) ∧ L' = [(b, .cells [.int .i16 0, .int .i32 0, .slice none 0 0, .pointer none, .int .i32 (-1), .slice none 0 0, .int .i32 (-2147483648), .int .i16 0, .map none].toArray 78 (0, 0))] :: L) := by
 refine Fn.mk Tryz.call14 Tryz.func14 rfl Tryz.ntmps14 rfl ?_
 refine sr ?_
 refine asg rfl rfl ?_
 refine nl ?_
 refine sr ?_
 refine al Tryz.zeroValue78 rfl rfl (fun b_1 => ?_)
 refine nl ?_
 refine sr ?_
 refine cl rfl rfl rfl def0_MetadataResponse rfl (fun v H1 L1 hle hR => ?_)
 obtain ⟨rfl, rfl⟩ := hR
 refine nl ?_
 refine sr ?_
 refine asg rfl rfl ?_
 refine nl ?_
 exact rT rfl rfl ler (fun _ _ h => h) ⟨rfl, _, rfl, rfl⟩
theorem maxv_MetadataResponse {H : Fz} {L : Own} {p : Value} :
  Fn Tryz.prog 15 [p] H L (fun v H' L' => H = H' ∧ L = L' ∧ v = .int .i16 13) := by
 refine Fn.mk Tryz.call15 Tryz.func15 rfl Tryz.ntmps15 rfl ?_
 refine sr ?_
 refine asg rfl rfl ?_
 refine nl ?_
 refine sr ?_
 refine asg rfl rfl ?_
 refine nl ?_
 exact rT rfl rfl ler (fun _ _ h => h) ⟨rfl, rfl, rfl⟩
theorem max_MetadataResponse {H : Fz} {L : Own} :
  Fn Tryz.prog 5 [] H L (fun v H' L' => H = H' ∧ L = L' ∧ v = .int .i64 13) := by
 refine Fn.mk Tryz.call5 Tryz.func5 rfl Tryz.ntmps5 rfl ?_
 refine sr ?_
 refine asg rfl rfl ?_
 refine nl ?_
 refine sr ?_
 refine cl rfl rfl rfl new_MetadataResponse rfl (fun v H1 L1 hle hR => ?_)
 obtain ⟨rfl, b, rfl, rfl⟩ := hR
 refine cl rfl rfl rfl maxv_MetadataResponse rfl (fun v H1 L1 hle hR => ?_)
 obtain ⟨rfl, rfl, rfl⟩ := hR
 refine cv Tryz.runUnderlying46 Tryz.runUnderlying3 rfl (w64 (by omega) (by omega)) rfl ?_
 refine asg rfl rfl ?_
 refine nl ?_
 refine drW .head ?_
 exact rT rfl rfl ler (fun _ _ h => h) ⟨rfl, rfl, rfl⟩
theorem rdj_MetadataResponse {H : Fz} {L : Own} {b : Nat} {v : Int} {a : Option Addr} {c : Nat} {s : List UInt8} {e : Value} (hB : BytesAt H a c s) (hL_ : s.length ≤ BR) (he : H.at 1 0 [e]) (h0 : 0 ≤ v) (h1 : v ≤ 13) :
  Fn Tryz.prog 33 [.pointer (some ⟨b, 0, none⟩), .slice a s.length c, .bool false] H ([(b, .cells [.int .i16 v, .int .i32 0, .slice none 0 0, .pointer none, .int .i32 (-1), .slice none 0 0, .int .i32 (-2147483648), .int .i16 0, .map none].toArray 78 (0, 0))] :: L) (fun r H' L' => ∃ cs : List Value, L' = [(b, .cells cs.toArray 78 (0, 0))] :: L ∧ RdEnd H' (At_MetadataResponse v) (decP fs_MetadataResponse v ((Msg.mk fs_MetadataResponse 9).flexible v) ⟨s, false, !a.isNone⟩) e r cs) := by
 by_cases hlv : v < 9
 ·
  have ef : (Msg.mk fs_MetadataResponse 9).flexible v = false := by simp [Msg.flexible]; omega
  rw [ef]
  exact rd_MetadataResponse_f hB hL_ he (by omega) (by omega)
 have ef : (Msg.mk fs_MetadataResponse 9).flexible v = true := by simp [Msg.flexible]; omega
 rw [ef]
 exact rd_MetadataResponse_t hB hL_ he (by omega) (by omega)
theorem rf_MetadataResponse {H : Fz} {L : Own} {b : Nat} {v : Int} {a : Option Addr} {c : Nat} {s : List UInt8} {e : Value} (hB : BytesAt H a c s) (hL_ : s.length ≤ BR) (he : H.at 1 0 [e]) (h0 : 0 ≤ v) (h1 : v ≤ 13) :
  Fn Tryz.prog 19 [.pointer (some ⟨b, 0, none⟩), .slice a s.length c] H ([(b, .cells [.int .i16 v, .int .i32 0, .slice none 0 0, .pointer none, .int .i32 (-1), .slice none 0 0, .int .i32 (-2147483648), .int .i16 0, .map none].toArray 78 (0, 0))] :: L) (fun r H' L' => ∃ cs : List Value, L' = [(b, .cells cs.toArray 78 (0, 0))] :: L ∧ RdEnd H' (At_MetadataResponse v) (decP fs_MetadataResponse v ((Msg.mk fs_MetadataResponse 9).flexible v) ⟨s, false, !a.isNone⟩) e r cs) := by
 refine Fn.mk Tryz.call19 Tryz.func19 rfl Tryz.ntmps19 rfl ?_
 refine sr ?_
 refine asg rfl rfl ?_
 refine nl ?_
 refine sr ?_
 refine mv rfl rfl ?_
 refine mv rfl rfl ?_
 refine cl rfl rfl rfl (rdj_MetadataResponse hB hL_ he h0 h1) rfl (fun v_ H1 L1 le1 hR => ?_)
 obtain ⟨cs, rfl, hE⟩ := hR
 refine asg rfl rfl ?_
 refine nl ?_
 exact rT rfl rfl le1 (fun _ _ h => h) ⟨_, rfl, hE⟩
theorem im_MetadataResponse {H : Fz} {L : Own} {v : Int} {a : Option Addr} {c t : Nat} {s : List UInt8} {ev : Value} (hB : BytesAt H a c s) (hs : s.length ≤ 68719476736) (he : H.at 1 0 [.iface t ev]) (h0 : 0 ≤ v) (h1 : v ≤ 13) :
  Fn Tryz.prog 8 [.int .i64 v, .slice a s.length c] H L (fun r H' L' => L = L' ∧ ((decP fs_MetadataResponse v ((Msg.mk fs_MetadataResponse 9).flexible v) ⟨s, false, !s.isEmpty⟩).2.bad = true ∧ r = .tuple #[.agg #[.int .i64 0, .slice none 0 0, .bool false, .slice none 0 0, .slice none 0 0], .bool false] ∨ (decP fs_MetadataResponse v ((Msg.mk fs_MetadataResponse 9).flexible v) ⟨s, false, !s.isEmpty⟩).2.bad = false ∧ ∃ c : TC, r = .tuple #[.agg (c.cells (tl_MetadataResponse (decP fs_MetadataResponse v ((Msg.mk fs_MetadataResponse 9).flexible v) ⟨s, false, !s.isEmpty⟩).1)).toArray, .bool true] ∧ TreeAt H' c (tl_MetadataResponse (decP fs_MetadataResponse v ((Msg.mk fs_MetadataResponse 9).flexible v) ⟨s, false, !s.isEmpty⟩).1))) := by
 refine Fn.mk Tryz.call8 Tryz.func8 rfl Tryz.ntmps8 rfl ?_
 refine sr ?_
 refine al Tryz.zeroValue37 rfl rfl (fun b_1 => ?_)
 refine asg rfl rfl ?_
 refine nl ?_
 refine sr ?_
 refine cl rfl rfl rfl new_MetadataResponse rfl (fun v_ H1 L1 hle hR => ?_)
 obtain ⟨rfl, b, rfl, rfl⟩ := hR
 refine asg rfl rfl ?_
 refine nl ?_
 refine sr ?_
 refine mv rfl rfl ?_
 refine mv rfl rfl ?_
 refine cv Tryz.runUnderlying3 Tryz.runUnderlying46 rfl (wrap_i16 (by omega) (by omega)) rfl ?_
 refine cl rfl rfl rfl setv_MetadataResponse rfl (fun v_ H1 L1 hle hR => ?_)
 obtain ⟨rfl, rfl⟩ := hR
 refine nl ?_
 refine sq ?_
 refine sr ?_
 refine mv rfl rfl ?_
 refine mv rfl rfl ?_
 refine nilL ?_
 refine ap (news := bytesOf s) Tryz.underlying22 I5 rfl rfl (Row.nil _ _) (fun _ => .head) (src_bytes Tryz.underlying22 hB rfl) (by omega) (by unfold maxLen; omega) rfl (fun a14 c14 N14 r14 z14 => ?_)
 rw [Nat.zero_add] at r14 ⊢
 rw [List.nil_append] at r14
 refine frL r14 .head (fun H2 le2 z2 => ?_)
 have y2 := BytesAt.row z2 r14 (by unfold B47; omega)
 have en_ : (!a14.isNone) = !s.isEmpty := isNone_app (by simpa using z14) rfl
 refine cl rfl rfl rfl (rf_MetadataResponse y2 (by unfold BR; omega) (he.mono le2) h0 h1) rfl (fun r_ H3 L3 le3 hR => ?_)
 obtain ⟨cs, rfl, hE⟩ := hR
 rw [en_] at hE
 rcases hE with ⟨hb, rfl⟩ | ⟨hb, rfl, hA⟩
 ·
  refine nei1 Tryz.underlying55 rfl rfl ?_
  refine nl ?_
  refine cT rfl ?_
  refine sr ?_
  refine bd' S37 rfl rfl rfl ?_
  refine sa Tryz.sizeOf37 rfl rfl rfl rfl rfl (.tail .head) ?_
  refine asg rfl rfl ?_
  refine nl ?_
  refine drW .head ?_
  exact rCT rfl Tryz.isAgg37 Tryz.sizeOf37 rfl rfl .head rfl (le2.trans le3) (fun _ _ h => h) ⟨rfl, .inl ⟨hb, rfl⟩⟩
 ·
  refine nei0 Tryz.underlying55 rfl rfl ?_
  refine nl ?_
  refine cF rfl ?_
  refine skt ?_
  refine sr ?_
  refine mv rfl rfl ?_
  have hok_ := At_MetadataResponse.ok hA
  refine frL (Row.whole (size := 9) (m := 1) (ds := cs) (by rw [hok_.1]) (by decide)) .head (fun H4 le4 z4 => ?_)
  have hv : H4.at b 0 cs := by
   rcases z4 with ⟨h, _⟩ | ⟨g, h, h2⟩
   · cases h
   · cases h; exact h2
  refine cl rfl rfl rfl (te_MetadataResponse hv (At_MetadataResponse.mono v _ _ _ _ le4 hA) (decP_fits good_MetadataResponse _ (by show s.length ≤ 1000000000000; omega) hb)) rfl (fun v_ H5 L5 le5 hR => ?_)
  obtain ⟨rfl, c5, rfl, g5⟩ := hR
  refine sa Tryz.sizeOf37 rfl rfl rfl rfl rfl .head ?_
  refine asg rfl rfl ?_
  refine nl ?_
  exact rCT rfl Tryz.isAgg37 Tryz.sizeOf37 rfl rfl .head rfl (le2.trans (le3.trans (le4.trans le5))) (fun _ _ h => h) ⟨rfl, .inr ⟨hb, c5, rfl, g5⟩⟩
theorem rdg_MetadataResponse {v : Int} (h0 : 0 ≤ v) (h1 : v ≤ 13) : RdGood v ((Msg.mk fs_MetadataResponse 9).flexible v) fs_MetadataResponse := by
 refine RdGood.of ?_
 have hv : v = 0 ∨ v = 1 ∨ v = 2 ∨ v = 3 ∨ v = 4 ∨ v = 5 ∨ v = 6 ∨ v = 7 ∨ v = 8 ∨ v = 9 ∨ v = 10 ∨ v = 11 ∨ v = 12 ∨ v = 13 := by omega
 rcases hv with rfl | rfl | rfl | rfl | rfl | rfl | rfl | rfl | rfl | rfl | rfl | rfl | rfl | rfl <;> decide +kernel
theorem law_MetadataResponse {H : Fz} {L : Own} {c : TC} {t : Tr} {n tt : Nat} {ev : Value} (hT : TreeAt H c t) (hn : n < 256) (hR : Ran t) (he : H.at 1 0 [.iface tt ev]) (hb : ∀ v : Int, 0 ≤ v → v ≤ 13 → ((Msg.mk fs_MetadataResponse 9).write v t).length ≤ 68719476736) :
  Fn Tryz.prog 3 [.int .u8 (n : Int), .agg (c.cells t).toArray] H L (fun r H' L' => L = L' ∧ r = .bool true) := by
 have h0 : (0 : Int) ≤ ((n % (13 + 1) : Nat) : Int) := by omega
 have h1 : ((n % (13 + 1) : Nat) : Int) ≤ 13 := by omega
 have hbv := hb _ h0 h1
 have hgd := rdg_MetadataResponse h0 h1
 obtain ⟨g, nn_, e1, e2, e3⟩ := read_back hgd t hR (!((Msg.mk fs_MetadataResponse 9).write ((n % (13 + 1) : Nat) : Int) t).isEmpty) []
 rw [List.append_nil] at e1
 have e4 : decP fs_MetadataResponse ((n % (13 + 1) : Nat) : Int) ((Msg.mk fs_MetadataResponse 9).flexible ((n % (13 + 1) : Nat) : Int)) ⟨((Msg.mk fs_MetadataResponse 9).write ((n % (13 + 1) : Nat) : Int) t), false, !((Msg.mk fs_MetadataResponse 9).write ((n % (13 + 1) : Nat) : Int) t).isEmpty⟩ = (g, ⟨[], false, nn_⟩) := e1
 have e5 : tl_MetadataResponse (decP fs_MetadataResponse ((n % (13 + 1) : Nat) : Int) ((Msg.mk fs_MetadataResponse 9).flexible ((n % (13 + 1) : Nat) : Int)) ⟨((Msg.mk fs_MetadataResponse 9).write ((n % (13 + 1) : Nat) : Int) t), false, !((Msg.mk fs_MetadataResponse 9).write ((n % (13 + 1) : Nat) : Int) t).isEmpty⟩).1 = g := by rw [tld_MetadataResponse hgd, e4]
 refine Fn.mk Tryz.call3 Tryz.func3 rfl Tryz.ntmps3 rfl ?_
 refine sr ?_
 refine bx rfl rfl rfl (fun b_1 => ?_)
 refine asg rfl rfl ?_
 refine nl ?_
 refine sq ?_
 refine sr ?_
 refine la (Says.own .head) Tryz.isAgg26 Tryz.sizeOf26 rfl (Nat.zero_add _).symm rfl rfl ?_
 refine cl rfl rfl rfl (s_fits1 hT) rfl (fun v_ H1 L1 le_2 hQ => ?_)
 obtain ⟨rfl, rfl, b11, rfl⟩ := hQ
 refine nt rfl rfl ?_
 refine nl ?_
 refine cb rfl (fun h12 => ?_) (fun h12 => ?_)
 ·
  refine sr ?_
  refine asg rfl rfl ?_
  refine nl ?_
  refine drW .head ?_
  exact rT rfl rfl ler (fun _ _ h => h) ⟨rfl, rfl⟩
 ·
  refine skt ?_
  refine sr ?_
  refine cl rfl rfl rfl max_MetadataResponse rfl (fun v_ H1 L1 le_3 hQ => ?_)
  obtain ⟨rfl, rfl, rfl⟩ := hQ
  refine asg rfl rfl ?_
  refine nl ?_
  refine sq ?_
  refine sr ?_
  refine mv rfl rfl ?_
  refine lt rfl rfl rfl ?_
  refine nl ?_
  refine cd rfl (fun h15 => ?_) (fun h15 => ?_)
  ·
   exact absurd h15 (by decide)
  ·
   refine skt ?_
   refine sr ?_
   refine cl rfl rfl rfl s_MetadataResponse rfl (fun v_ H1 L1 le_4 hQ => ?_)
   obtain ⟨rfl, af, rfl, hF⟩ := hQ
   refine mv rfl rfl ?_
   refine mv rfl rfl ?_
   refine cl rfl rfl rfl (s_version (n := n) (most := 13) hn (by omega)) rfl (fun v_ H1 L1 le_5 hQ => ?_)
   obtain ⟨rfl, rfl, rfl⟩ := hQ
   refine al Tryz.zeroValue31 rfl rfl (fun b_6 => ?_)
   refine sa Tryz.sizeOf31 rfl rfl rfl rfl rfl .head ?_
   refine asg rfl rfl ?_
   refine nl ?_
   refine sr ?_
   refine mv rfl rfl ?_
   refine la (Says.own .head) Tryz.isAgg31 Tryz.sizeOf31 rfl (Nat.zero_add _).symm rfl rfl ?_
   refine mv rfl rfl ?_
   refine la (Says.own (.tail .head)) Tryz.isAgg26 Tryz.sizeOf26 rfl (Nat.zero_add _).symm rfl rfl ?_
   refine cl rfl rfl rfl (s_write (m := (Msg.mk fs_MetadataResponse 9)) hF (hT.mono le_4) (by unfold B46; omega)) rfl (fun v_ H1 L1 le_7 hQ => ?_)
   obtain ⟨aw, cw, Nw, rfl, rfl, hw_⟩ := hQ
   refine frL hw_.1 .head (fun H9 le9 z9 => ?_)
   have y9 := BytesAt.row z9 hw_.1 (by unfold B47; omega)
   refine cl rfl rfl rfl (im_MetadataResponse y9 hbv (he.mono (le_4.trans (le_7.trans le9))) h0 h1) rfl (fun r_ H3 L3 le_8 hQ => ?_)
   obtain ⟨rfl, hQ⟩ := hQ
   rcases hQ with ⟨hb1, rfl⟩ | ⟨hb1, c1, rfl, g1⟩
   · rw [e4] at hb1; cases hb1
   rw [e5] at g1 ⊢
   refine mv rfl rfl ?_
   refine extr rfl rfl rfl ?_
   refine extr rfl rfl rfl ?_
   refine al Tryz.zeroValue37 rfl rfl (fun b_9 => ?_)
   refine sa Tryz.sizeOf37 rfl rfl rfl rfl rfl .head ?_
   refine asg rfl rfl ?_
   refine nl ?_
   refine sq ?_
   refine rgD 14 kp3 mixed ?_
   refine dU 0 rfl rfl rfl (y_mv rfl) kp3 ler ?_
   refine dU 1 rfl rfl rfl (y_mv rfl) kp3 ler ?_
   refine dU 2 rfl rfl rfl (y_gr rfl rfl (y_fa0 F31_0 rfl)) kp3 ler ?_
   refine dU 3 rfl rfl rfl (y_gr rfl rfl (y_ld (Says.own (.tail .head)) Tryz.isAgg29 rfl (Nat.zero_add _).symm rfl)) kp3 ler ?_
   refine dU 4 rfl rfl rfl (y_gr rfl rfl (y_mv rfl)) kp3 ler ?_
   refine dU 5 rfl rfl rfl (y_gr rfl rfl (y_la (Says.own (.tail .head)) Tryz.isAgg31 Tryz.sizeOf31 rfl (Nat.zero_add _).symm rfl)) kp3 ler ?_
   refine dU 6 rfl rfl rfl (y_gr rfl rfl (y_mv rfl)) kp3 ler ?_
   refine dU 8 rfl rfl rfl (y_gr rfl rfl (y_la (Says.own (.tail (.tail .head))) Tryz.isAgg26 Tryz.sizeOf26 rfl (Nat.zero_add _).symm rfl)) kp3 ler ?_
   refine dU 9 rfl rfl rfl (y_gr rfl rfl (y_la (Says.own .head) Tryz.isAgg37 Tryz.sizeOf37 rfl (Nat.zero_add _).symm rfl)) kp3 ler ?_
   refine dE 7 (by kernel_rfl) rfl ?_
   refine gr rfl rfl ?_
   refine cl rfl rfl rfl (s_flexible (m := (Msg.mk fs_MetadataResponse 9))) rfl (fun v_ H1 L1 le_10 hQ => ?_)
   obtain ⟨rfl, rfl, rfl⟩ := hQ
   refine dN kp3 ler ?_
   refine dE 10 (by kernel_rfl) rfl ?_
   refine gr rfl rfl ?_
   refine cl rfl rfl rfl (s_got _ g1) rfl (fun v_ H1 L1 le_11 hQ => ?_)
   obtain ⟨rfl, cq, rfl, kq⟩ := hQ
   refine dN kp3 le_11 ?_
   refine dE 11 (by kernel_rfl) rfl ?_
   refine gr rfl rfl ?_
   refine cl rfl rfl rfl (s_Told hgd (hF.mono (le_7.trans (le9.trans (le_8.trans le_11)))) (hT.mono (le_4.trans (le_7.trans (le9.trans (le_8.trans le_11))))) kq e2) rfl (fun v_ H1 L1 le_12 hQ => ?_)
   obtain ⟨rfl, rfl⟩ := hQ
   refine dN kp3 (le_11.trans le_12) ?_
   refine dU 12 rfl rfl rfl (y_pk rfl rfl rfl) kp3 (le_11.trans le_12) ?_
   refine dU 13 rfl rfl rfl (y_asg rfl) kp3 (le_11.trans le_12) ?_
   refine dD (by kernel_rfl) ?_
   refine Nt ?_
   refine drW .head ?_
   refine drW .head ?_
   refine drW .head ?_
   exact rT rfl rfl (le_4.trans (le_7.trans (le9.trans (le_8.trans (le_11.trans le_12))))) (fun _ _ h => h) ⟨rfl, rfl⟩
end Go.Sx

import Derived.Test.YtdacadmfdhjpoaaDoorSxTab
import Derived.Test.YtdacadmfdhjpoaaDoorDStopReplicaRequest
import Derived.Test.YtdacadmfdhjpoaaDoorS5
import Derived.Test.YtdacadmfdhjpoaaDoorEStopReplicaRequest
import Derived.KernelRfl
set_option linter.unusedVariables false
set_option linter.unusedSimpArgs false
set_option maxRecDepth 100000
set_option maxHeartbeats 20000000
namespace Go.Sx
open Go.Proofs
theorem good_StopReplicaRequest : Good fs_StopReplicaRequest := Good.of (by decide) (by decide)
theorem setv_StopReplicaRequest {H : Fz} {L : Own} {b : Nat} {x : Int} {c0 c1 c2 c3 c4 c5 c6 c7 : Value} :
    Fn Tryd.prog 12 [.pointer (some ⟨b, 0, none⟩), .int .i16 x] H ([(b, .cells [c0, c1, c2, c3, c4, c5, c6, c7].toArray 57 (0, 0))] :: L) (fun _ H' L' => H = H' ∧ L' = [(b, .cells [.int .i16 x, c1, c2, c3, c4, c5, c6, c7].toArray 57 (0, 0))] :: L) := by
  refine Fn.mk Tryd.call12 Tryd.func12 rfl Tryd.ntmps12 rfl ?_
  refine rg ?_
  refine mv rfl rfl ?_
  refine mv rfl rfl ?_
  refine nc rfl rfl ?_
  refine fa0 F57_0 rfl rfl ?_
  refine st Tryd.sizeOf38 rfl rfl rfl rfl .head ?_
  refine nN ?_
  exact fun _ _ hA hw => rn rfl (Fz.le.refl _) ⟨rfl, rfl⟩ hA hw
theorem new_StopReplicaRequest {H : Fz} {L : Own} :
    Fn Tryd.prog 10 [] H L (fun v H' L' => H = H' ∧ ∃ b, v = .pointer (some ⟨b, 0, none⟩) ∧ L' = [(b, .cells [.int .i16 0, .int .i32 0, .int .i32 0, .bool false, .int .i64 (-1), .bool false, .slice none 0 0, .map none].toArray 57 (0, 0))] :: L) := by
  refine Fn.mk Tryd.call10 Tryd.func10 rfl Tryd.ntmps10 rfl ?_
  refine sr ?_
  refine asg rfl rfl ?_
  refine nl ?_
  refine sr ?_
  refine al Tryd.zeroValue57 rfl rfl (fun b_1 => ?_)
  refine nl ?_
  refine sr ?_
  refine cl rfl rfl rfl def0_StopReplicaRequest rfl (fun v H1 L1 hle hR => ?_)
  obtain ⟨rfl, rfl⟩ := hR
  refine nl ?_
  refine sr ?_
  refine asg rfl rfl ?_
  refine nl ?_
  exact rT rfl rfl (Fz.le.refl _) (fun _ _ h => h) ⟨rfl, _, rfl, rfl⟩
theorem maxv_StopReplicaRequest {H : Fz} {L : Own} {p : Value} :
    Fn Tryd.prog 11 [p] H L (fun v H' L' => H = H' ∧ L = L' ∧ v = .int .i16 4) := by
  refine Fn.mk Tryd.call11 Tryd.func11 rfl Tryd.ntmps11 rfl ?_
  refine sr ?_
  refine asg rfl rfl ?_
  refine nl ?_
  refine sr ?_
  refine asg rfl rfl ?_
  refine nl ?_
  exact rT rfl rfl (Fz.le.refl _) (fun _ _ h => h) ⟨rfl, rfl, rfl⟩
theorem max_StopReplicaRequest {H : Fz} {L : Own} :
    Fn Tryd.prog 4 [] H L (fun v H' L' => H = H' ∧ L = L' ∧ v = .int .i64 4) := by
  refine Fn.mk Tryd.call4 Tryd.func4 rfl Tryd.ntmps4 rfl ?_
  refine sr ?_
  refine asg rfl rfl ?_
  refine nl ?_
  refine sr ?_
  refine cl rfl rfl rfl new_StopReplicaRequest rfl (fun v H1 L1 hle hR => ?_)
  obtain ⟨rfl, b, rfl, rfl⟩ := hR
  refine cl rfl rfl rfl maxv_StopReplicaRequest rfl (fun v H1 L1 hle hR => ?_)
  obtain ⟨rfl, rfl, rfl⟩ := hR
  refine cv Tryd.runUnderlying38 Tryd.runUnderlying3 rfl (w64 (by omega) (by omega)) rfl ?_
  refine asg rfl rfl ?_
  refine nl ?_
  refine drW .head ?_
  exact rT rfl rfl (Fz.le.refl _) (fun _ _ h => h) ⟨rfl, rfl, rfl⟩
theorem rdj_StopReplicaRequest {H : Fz} {L : Own} {b : Nat} {v : Int} {a : Option Addr} {c : Nat} {s : List UInt8} {e : Value} (hB : BytesAt H a c s) (hL_ : s.length ≤ BR) (he : H.at 1 0 [e]) (h0 : 0 ≤ v) (h1 : v ≤ 4) :
    Fn Tryd.prog 18 [.pointer (some ⟨b, 0, none⟩), .slice a s.length c, .bool false] H ([(b, .cells [.int .i16 v, .int .i32 0, .int .i32 0, .bool false, .int .i64 (-1), .bool false, .slice none 0 0, .map none].toArray 57 (0, 0))] :: L) (fun r H' L' => ∃ cs : List Value, L' = [(b, .cells cs.toArray 57 (0, 0))] :: L ∧ RdEnd H' (At_StopReplicaRequest v) (decP fs_StopReplicaRequest v ((Msg.mk fs_StopReplicaRequest 2).flexible v) ⟨s, false, !a.isNone⟩) e r cs) := by
  by_cases hlv : v < 2
  · skip
    have ef : (Msg.mk fs_StopReplicaRequest 2).flexible v = false := by simp [Msg.flexible]; omega
    rw [ef]
    exact rd_StopReplicaRequest_f hB hL_ he (by omega) (by omega)
  have ef : (Msg.mk fs_StopReplicaRequest 2).flexible v = true := by simp [Msg.flexible]; omega
  rw [ef]
  exact rd_StopReplicaRequest_t hB hL_ he (by omega) (by omega)
theorem rf_StopReplicaRequest {H : Fz} {L : Own} {b : Nat} {v : Int} {a : Option Addr} {c : Nat} {s : List UInt8} {e : Value} (hB : BytesAt H a c s) (hL_ : s.length ≤ BR) (he : H.at 1 0 [e]) (h0 : 0 ≤ v) (h1 : v ≤ 4) :
    Fn Tryd.prog 13 [.pointer (some ⟨b, 0, none⟩), .slice a s.length c] H ([(b, .cells [.int .i16 v, .int .i32 0, .int .i32 0, .bool false, .int .i64 (-1), .bool false, .slice none 0 0, .map none].toArray 57 (0, 0))] :: L) (fun r H' L' => ∃ cs : List Value, L' = [(b, .cells cs.toArray 57 (0, 0))] :: L ∧ RdEnd H' (At_StopReplicaRequest v) (decP fs_StopReplicaRequest v ((Msg.mk fs_StopReplicaRequest 2).flexible v) ⟨s, false, !a.isNone⟩) e r cs) := by
  refine Fn.mk Tryd.call13 Tryd.func13 rfl Tryd.ntmps13 rfl ?_
  refine sr ?_
  refine asg rfl rfl ?_
  refine nl ?_
  refine sr ?_
  refine mv rfl rfl ?_
  refine mv rfl rfl ?_
  refine cl rfl rfl rfl (rdj_StopReplicaRequest hB hL_ he h0 h1) rfl (fun v_ H1 L1 le1 hR => ?_)
  obtain ⟨cs, rfl, hE⟩ := hR
  refine asg rfl rfl ?_
  refine nl ?_
  exact rT rfl rfl le1 (fun _ _ h => h) ⟨_, rfl, hE⟩
theorem im_StopReplicaRequest {H : Fz} {L : Own} {v : Int} {a : Option Addr} {c t : Nat} {s : List UInt8} {ev : Value} (hB : BytesAt H a c s) (hs : s.length ≤ 1000) (he : H.at 1 0 [.iface t ev]) (h0 : 0 ≤ v) (h1 : v ≤ 4) :
    Fn Tryd.prog 5 [.int .i64 v, .slice a s.length c] H L (fun r H' L' => L = L' ∧ ((decP fs_StopReplicaRequest v ((Msg.mk fs_StopReplicaRequest 2).flexible v) ⟨s, false, !s.isEmpty⟩).2.bad = true ∧ r = .tuple #[.agg #[.int .i64 0, .slice none 0 0, .bool false, .slice none 0 0, .slice none 0 0], .bool false] ∨ (decP fs_StopReplicaRequest v ((Msg.mk fs_StopReplicaRequest 2).flexible v) ⟨s, false, !s.isEmpty⟩).2.bad = false ∧ ∃ c : TC, r = .tuple #[.agg (c.cells (tl_StopReplicaRequest (decP fs_StopReplicaRequest v ((Msg.mk fs_StopReplicaRequest 2).flexible v) ⟨s, false, !s.isEmpty⟩).1)).toArray, .bool true] ∧ TreeAt H' c (tl_StopReplicaRequest (decP fs_StopReplicaRequest v ((Msg.mk fs_StopReplicaRequest 2).flexible v) ⟨s, false, !s.isEmpty⟩).1))) := by
  refine Fn.mk Tryd.call5 Tryd.func5 rfl Tryd.ntmps5 rfl ?_
  refine sr ?_
  refine al Tryd.zeroValue27 rfl rfl (fun b_1 => ?_)
  refine asg rfl rfl ?_
  refine nl ?_
  refine sr ?_
  refine cl rfl rfl rfl new_StopReplicaRequest rfl (fun v_ H1 L1 hle hR => ?_)
  obtain ⟨rfl, b, rfl, rfl⟩ := hR
  refine asg rfl rfl ?_
  refine nl ?_
  refine sr ?_
  refine mv rfl rfl ?_
  refine mv rfl rfl ?_
  refine cv Tryd.runUnderlying3 Tryd.runUnderlying38 rfl (wrap_i16 (by omega) (by omega)) rfl ?_
  refine cl rfl rfl rfl setv_StopReplicaRequest rfl (fun v_ H1 L1 hle hR => ?_)
  obtain ⟨rfl, rfl⟩ := hR
  refine nl ?_
  refine sq ?_
  refine sr ?_
  refine mv rfl rfl ?_
  refine mv rfl rfl ?_
  refine nilL ?_
  refine ap (news := bytesOf s) Tryd.underlying22 I5 rfl rfl (Row.nil _ _) (fun _ => .head) (src_bytes Tryd.underlying22 hB rfl) (by omega) (by unfold maxLen; omega) rfl (fun a14 c14 N14 r14 z14 => ?_)
  rw [Nat.zero_add] at r14 ⊢
  rw [List.nil_append] at r14
  refine frL r14 .head (fun H2 le2 z2 => ?_)
  have y2 := BytesAt.row z2 r14 (by unfold B47; omega)
  have en_ : (!a14.isNone) = !s.isEmpty := isNone_app (by simpa using z14) rfl
  refine cl rfl rfl rfl (rf_StopReplicaRequest y2 (by unfold BR; omega) (he.mono le2) h0 h1) rfl (fun r_ H3 L3 le3 hR => ?_)
  obtain ⟨cs, rfl, hE⟩ := hR
  rw [en_] at hE
  rcases hE with ⟨hb, rfl⟩ | ⟨hb, rfl, hA⟩
  · skip
    refine nei1 Tryd.underlying44 rfl rfl ?_
    refine nl ?_
    refine cT rfl ?_
    refine sr ?_
    refine bd' S27 rfl rfl rfl ?_
    refine sa Tryd.sizeOf27 rfl rfl rfl rfl rfl (.tail .head) ?_
    refine asg rfl rfl ?_
    refine nl ?_
    refine drW .head ?_
    exact rCT rfl Tryd.isAgg27 Tryd.sizeOf27 rfl rfl .head rfl (le2.trans le3) (fun _ _ h => h) ⟨rfl, .inl ⟨hb, rfl⟩⟩
  · skip
    refine nei0 Tryd.underlying44 rfl rfl ?_
    refine nl ?_
    refine cF rfl ?_
    refine skt ?_
    refine sr ?_
    refine mv rfl rfl ?_
    have hok_ := At_StopReplicaRequest.ok hA
    refine frL (Row.whole (size := 8) (m := 1) (ds := cs) (by rw [hok_.1]) (by decide)) .head (fun H4 le4 z4 => ?_)
    have hv : H4.at b 0 cs := by
      rcases z4 with ⟨h, _⟩ | ⟨g, h, h2⟩
      · cases h
      · cases h; exact h2
    refine cl rfl rfl rfl (te_StopReplicaRequest hv (At_StopReplicaRequest.mono v _ _ _ _ le4 hA) (decP_fits good_StopReplicaRequest _ (by show s.length ≤ 1000000; omega) hb)) rfl (fun v_ H5 L5 le5 hR => ?_)
    obtain ⟨rfl, c5, rfl, g5⟩ := hR
    refine sa Tryd.sizeOf27 rfl rfl rfl rfl rfl .head ?_
    refine asg rfl rfl ?_
    refine nl ?_
    exact rCT rfl Tryd.isAgg27 Tryd.sizeOf27 rfl rfl .head rfl (le2.trans (le3.trans (le4.trans le5))) (fun _ _ h => h) ⟨rfl, .inr ⟨hb, c5, rfl, g5⟩⟩
theorem rdj_StopReplicaRequestu {H : Fz} {L : Own} {b : Nat} {v : Int} {a : Option Addr} {c : Nat} {s : List UInt8} {e : Value} (hB : BytesAt H a c s) (hL_ : s.length ≤ BR) (he : H.at 1 0 [e]) (h0 : 0 ≤ v) (h1 : v ≤ 4) :
    Fn Tryd.prog 18 [.pointer (some ⟨b, 0, none⟩), .slice a s.length c, .bool true] H ([(b, .cells [.int .i16 v, .int .i32 0, .int .i32 0, .bool false, .int .i64 (-1), .bool false, .slice none 0 0, .map none].toArray 57 (0, 0))] :: L) (fun r H' L' => ∃ cs : List Value, L' = [(b, .cells cs.toArray 57 (0, 0))] :: L ∧ RdEnd H' (At_StopReplicaRequest v) (decP fs_StopReplicaRequest v ((Msg.mk fs_StopReplicaRequest 2).flexible v) ⟨s, false, !a.isNone⟩) e r cs) := by
  by_cases hlv : v < 2
  · skip
    have ef : (Msg.mk fs_StopReplicaRequest 2).flexible v = false := by simp [Msg.flexible]; omega
    rw [ef]
    exact rd_StopReplicaRequest_fu hB hL_ he (by omega) (by omega)
  have ef : (Msg.mk fs_StopReplicaRequest 2).flexible v = true := by simp [Msg.flexible]; omega
  rw [ef]
  exact rd_StopReplicaRequest_tu hB hL_ he (by omega) (by omega)
theorem rf_StopReplicaRequestu {H : Fz} {L : Own} {b : Nat} {v : Int} {a : Option Addr} {c : Nat} {s : List UInt8} {e : Value} (hB : BytesAt H a c s) (hL_ : s.length ≤ BR) (he : H.at 1 0 [e]) (h0 : 0 ≤ v) (h1 : v ≤ 4) :
    Fn Tryd.prog 15 [.pointer (some ⟨b, 0, none⟩), .slice a s.length c] H ([(b, .cells [.int .i16 v, .int .i32 0, .int .i32 0, .bool false, .int .i64 (-1), .bool false, .slice none 0 0, .map none].toArray 57 (0, 0))] :: L) (fun r H' L' => ∃ cs : List Value, L' = [(b, .cells cs.toArray 57 (0, 0))] :: L ∧ RdEnd H' (At_StopReplicaRequest v) (decP fs_StopReplicaRequest v ((Msg.mk fs_StopReplicaRequest 2).flexible v) ⟨s, false, !a.isNone⟩) e r cs) := by
  refine Fn.mk Tryd.call15 Tryd.func15 rfl Tryd.ntmps15 rfl ?_
  refine sr ?_
  refine asg rfl rfl ?_
  refine nl ?_
  refine sr ?_
  refine mv rfl rfl ?_
  refine mv rfl rfl ?_
  refine cl rfl rfl rfl (rdj_StopReplicaRequestu hB hL_ he h0 h1) rfl (fun v_ H1 L1 le1 hR => ?_)
  obtain ⟨cs, rfl, hE⟩ := hR
  refine asg rfl rfl ?_
  refine nl ?_
  exact rT rfl rfl le1 (fun _ _ h => h) ⟨_, rfl, hE⟩
theorem im_StopReplicaRequestu {H : Fz} {L : Own} {v : Int} {a : Option Addr} {c t : Nat} {s : List UInt8} {ev : Value} (hB : BytesAt H a c s) (hs : s.length ≤ 1000) (he : H.at 1 0 [.iface t ev]) (h0 : 0 ≤ v) (h1 : v ≤ 4) :
    Fn Tryd.prog 7 [.int .i64 v, .slice a s.length c] H L (fun r H' L' => L = L' ∧ ((decP fs_StopReplicaRequest v ((Msg.mk fs_StopReplicaRequest 2).flexible v) ⟨s, false, !s.isEmpty⟩).2.bad = true ∧ r = .tuple #[.agg #[.int .i64 0, .slice none 0 0, .bool false, .slice none 0 0, .slice none 0 0], .bool false] ∨ (decP fs_StopReplicaRequest v ((Msg.mk fs_StopReplicaRequest 2).flexible v) ⟨s, false, !s.isEmpty⟩).2.bad = false ∧ ∃ c : TC, r = .tuple #[.agg (c.cells (tl_StopReplicaRequest (decP fs_StopReplicaRequest v ((Msg.mk fs_StopReplicaRequest 2).flexible v) ⟨s, false, !s.isEmpty⟩).1)).toArray, .bool true] ∧ TreeAt H' c (tl_StopReplicaRequest (decP fs_StopReplicaRequest v ((Msg.mk fs_StopReplicaRequest 2).flexible v) ⟨s, false, !s.isEmpty⟩).1))) := by
  refine Fn.mk Tryd.call7 Tryd.func7 rfl Tryd.ntmps7 rfl ?_
  refine sr ?_
  refine al Tryd.zeroValue27 rfl rfl (fun b_1 => ?_)
  refine asg rfl rfl ?_
  refine nl ?_
  refine sr ?_
  refine cl rfl rfl rfl new_StopReplicaRequest rfl (fun v_ H1 L1 hle hR => ?_)
  obtain ⟨rfl, b, rfl, rfl⟩ := hR
  refine asg rfl rfl ?_
  refine nl ?_
  refine sr ?_
  refine mv rfl rfl ?_
  refine mv rfl rfl ?_
  refine cv Tryd.runUnderlying3 Tryd.runUnderlying38 rfl (wrap_i16 (by omega) (by omega)) rfl ?_
  refine cl rfl rfl rfl setv_StopReplicaRequest rfl (fun v_ H1 L1 hle hR => ?_)
  obtain ⟨rfl, rfl⟩ := hR
  refine nl ?_
  refine sq ?_
  refine sr ?_
  refine mv rfl rfl ?_
  refine mv rfl rfl ?_
  refine nilL ?_
  refine ap (news := bytesOf s) Tryd.underlying22 I5 rfl rfl (Row.nil _ _) (fun _ => .head) (src_bytes Tryd.underlying22 hB rfl) (by omega) (by unfold maxLen; omega) rfl (fun a14 c14 N14 r14 z14 => ?_)
  rw [Nat.zero_add] at r14 ⊢
  rw [List.nil_append] at r14
  refine frL r14 .head (fun H2 le2 z2 => ?_)
  have y2 := BytesAt.row z2 r14 (by unfold B47; omega)
  have en_ : (!a14.isNone) = !s.isEmpty := isNone_app (by simpa using z14) rfl
  refine cl rfl rfl rfl (rf_StopReplicaRequestu y2 (by unfold BR; omega) (he.mono le2) h0 h1) rfl (fun r_ H3 L3 le3 hR => ?_)
  obtain ⟨cs, rfl, hE⟩ := hR
  rw [en_] at hE
  rcases hE with ⟨hb, rfl⟩ | ⟨hb, rfl, hA⟩
  · skip
    refine nei1 Tryd.underlying44 rfl rfl ?_
    refine nl ?_
    refine cT rfl ?_
    refine sr ?_
    refine bd' S27 rfl rfl rfl ?_
    refine sa Tryd.sizeOf27 rfl rfl rfl rfl rfl (.tail .head) ?_
    refine asg rfl rfl ?_
    refine nl ?_
    refine drW .head ?_
    exact rCT rfl Tryd.isAgg27 Tryd.sizeOf27 rfl rfl .head rfl (le2.trans le3) (fun _ _ h => h) ⟨rfl, .inl ⟨hb, rfl⟩⟩
  · skip
    refine nei0 Tryd.underlying44 rfl rfl ?_
    refine nl ?_
    refine cF rfl ?_
    refine skt ?_
    refine sr ?_
    refine mv rfl rfl ?_
    have hok_ := At_StopReplicaRequest.ok hA
    refine frL (Row.whole (size := 8) (m := 1) (ds := cs) (by rw [hok_.1]) (by decide)) .head (fun H4 le4 z4 => ?_)
    have hv : H4.at b 0 cs := by
      rcases z4 with ⟨h, _⟩ | ⟨g, h, h2⟩
      · cases h
      · cases h; exact h2
    refine cl rfl rfl rfl (te_StopReplicaRequest hv (At_StopReplicaRequest.mono v _ _ _ _ le4 hA) (decP_fits good_StopReplicaRequest _ (by show s.length ≤ 1000000; omega) hb)) rfl (fun v_ H5 L5 le5 hR => ?_)
    obtain ⟨rfl, c5, rfl, g5⟩ := hR
    refine sa Tryd.sizeOf27 rfl rfl rfl rfl rfl .head ?_
    refine asg rfl rfl ?_
    refine nl ?_
    exact rCT rfl Tryd.isAgg27 Tryd.sizeOf27 rfl rfl .head rfl (le2.trans (le3.trans (le4.trans le5))) (fun _ _ h => h) ⟨rfl, .inr ⟨hb, c5, rfl, g5⟩⟩
theorem law_StopReplicaRequest {H : Fz} {L : Own} {n : Nat} {a : Option Addr} {c t : Nat} {s : List UInt8} {ev : Value} (hn : n < 256) (hB : BytesAt H a c s) (he : H.at 1 0 [.iface t ev]) :
    Fn Tryd.prog 3 [.int .u8 (n : Int), .slice a s.length c] H L (fun r H' L' => L = L' ∧ r = .bool true) := by
  have h0 : (0 : Int) ≤ ((n % (4 + 1) : Nat) : Int) := by omega
  have h1 : ((n % (4 + 1) : Nat) : Int) ≤ 4 := by omega
  refine Fn.mk Tryd.call3 Tryd.func3 rfl Tryd.ntmps3 rfl ?_
  refine sr ?_
  refine asg rfl rfl ?_
  refine nl ?_
  refine sq ?_
  refine sr ?_
  refine mv rfl rfl ?_
  refine ls Tryd.runUnderlying22 rfl rfl ?_
  refine gt rfl rfl rfl ?_
  refine nl ?_
  refine cd rfl (fun h12 => ?_) (fun h12 => ?_)
  · skip
    refine sr ?_
    refine asg rfl rfl ?_
    refine nl ?_
    exact rT rfl rfl (Fz.le.refl _) (fun _ _ h => h) ⟨rfl, rfl⟩
  · skip
    refine skt ?_
    refine sr ?_
    refine cl rfl rfl rfl max_StopReplicaRequest rfl (fun v_ H1 L1 hle hR => ?_)
    obtain ⟨rfl, rfl, rfl⟩ := hR
    refine asg rfl rfl ?_
    refine nl ?_
    refine sq ?_
    refine sr ?_
    refine mv rfl rfl ?_
    refine lt rfl rfl rfl ?_
    refine nl ?_
    refine cd rfl (fun h15 => ?_) (fun h15 => ?_)
    · skip
      exact absurd h15 (by decide)
    · skip
      refine skt ?_
      refine sq ?_
      refine sr ?_
      refine mv rfl rfl ?_
      refine ls Tryd.runUnderlying22 rfl rfl ?_
      refine gt rfl rfl rfl ?_
      refine nl ?_
      refine cd rfl (fun h18 => ?_) (fun h18 => ?_)
      · skip
        refine sr ?_
        refine asg rfl rfl ?_
        refine nl ?_
        exact rT rfl rfl (Fz.le.refl _) (fun _ _ h => h) ⟨rfl, rfl⟩
      · skip
        have hs_ : s.length ≤ 1000 := by omega
        refine skt ?_
        refine sr ?_
        refine mv rfl rfl ?_
        refine mv rfl rfl ?_
        refine cl rfl rfl rfl (s_version (n := n) (most := 4) hn (by omega)) rfl (fun v_ H1 L1 hle hR => ?_)
        obtain ⟨rfl, rfl, rfl⟩ := hR
        refine mv rfl rfl ?_
        refine cl rfl rfl rfl (im_StopReplicaRequest hB hs_ he h0 h1) rfl (fun r_ H3 L3 le_3 hR => ?_)
        obtain ⟨rfl, hR⟩ := hR
        rcases hR with ⟨hb1, rfl⟩ | ⟨hb1, c1, rfl, g1⟩
        · skip
          refine mv rfl rfl ?_
          refine extr rfl rfl rfl ?_
          refine extr rfl rfl rfl ?_
          refine al Tryd.zeroValue27 rfl rfl (fun b_4 => ?_)
          refine sa Tryd.sizeOf27 rfl rfl rfl rfl rfl .head ?_
          refine asg rfl rfl ?_
          refine nl ?_
          refine sr ?_
          refine mv rfl rfl ?_
          refine mv rfl rfl ?_
          refine cl rfl rfl rfl (s_version (n := n) (most := 4) hn (by omega)) rfl (fun v_ H1 L1 hle hR => ?_)
          obtain ⟨rfl, rfl, rfl⟩ := hR
          refine mv rfl rfl ?_
          refine cl rfl rfl rfl (im_StopReplicaRequestu (hB.mono le_3) hs_ (he.mono le_3) h0 h1) rfl (fun r_ H3 L3 le_6 hR => ?_)
          obtain ⟨rfl, hR⟩ := hR
          rcases hR with ⟨hb2, rfl⟩ | ⟨hb2, c2, rfl, g2⟩
          · skip
            refine mv rfl rfl ?_
            refine extr rfl rfl rfl ?_
            refine extr rfl rfl rfl ?_
            refine al Tryd.zeroValue27 rfl rfl (fun b_7 => ?_)
            refine sa Tryd.sizeOf27 rfl rfl rfl rfl rfl .head ?_
            refine asg rfl rfl ?_
            refine nl ?_
            refine sq ?_
            refine rgD 15 (.keep (.keep .nil)) mixed ?_
            refine dT 0 rfl rfl rfl (by kernel_rfl) (fun _ _ _ h => h) (y_mv rfl) (.keep (.keep .nil)) (Fz.le.refl _) ?_
            refine dT 1 rfl rfl rfl (by kernel_rfl) (fun _ _ _ h => h) (y_mv rfl) (.keep (.keep .nil)) (Fz.le.refl _) ?_
            refine dT 2 rfl rfl rfl (by kernel_rfl) (fun _ _ _ h => h) (y_eqb Tryd.underlying4 rfl rfl) (.keep (.keep .nil)) (Fz.le.refl _) ?_
            refine dT 3 rfl rfl rfl (by kernel_rfl) (fun _ _ _ h => h) (y_mv rfl) (.keep (.keep .nil)) (Fz.le.refl _) ?_
            refine dT 4 rfl rfl rfl (by kernel_rfl) (fun _ _ _ h => h) (y_gr rfl rfl (y_mv rfl)) (.keep (.keep .nil)) (Fz.le.refl _) ?_
            refine dT 5 rfl rfl rfl (by kernel_rfl) (fun _ _ _ h => h) (y_gr rfl rfl (y_nt rfl)) (.keep (.keep .nil)) (Fz.le.refl _) ?_
            refine dT 6 rfl rfl rfl (by kernel_rfl) (fun _ _ _ h => h) (y_gr rfl rfl (y_mv rfl)) (.keep (.keep .nil)) (Fz.le.refl _) ?_
            refine dT 7 rfl rfl rfl (by kernel_rfl) (fun _ _ _ h => h) (y_gs rfl rfl rfl) (.keep (.keep .nil)) (Fz.le.refl _) ?_
            refine dT 9 rfl rfl rfl (by kernel_rfl) (fun _ _ _ h => h) (y_gs rfl rfl rfl) (.keep (.keep .nil)) (Fz.le.refl _) ?_
            refine dE 8 (by kernel_rfl) rfl ?_
            refine gs rfl rfl rfl rfl ?_
            refine dN (.keep (.keep .nil)) (Fz.le.refl _) ?_
            refine dE 10 (by kernel_rfl) rfl ?_
            refine gs rfl rfl rfl rfl ?_
            refine dN (.keep (.keep .nil)) (Fz.le.refl _) ?_
            refine dE 11 (by kernel_rfl) rfl ?_
            refine gs rfl rfl rfl rfl ?_
            refine dN (.keep (.keep .nil)) (Fz.le.refl _) ?_
            refine dT 12 rfl rfl rfl (by kernel_rfl) (fun _ _ _ h => h) (y_gr rfl rfl (y_pk rfl rfl rfl)) (.keep (.keep .nil)) (Fz.le.refl _) ?_
            refine dT 13 rfl rfl rfl (by kernel_rfl) (fun _ _ _ h => h) (y_pk rfl rfl rfl) (.keep (.keep .nil)) (Fz.le.refl _) ?_
            refine dT 14 rfl rfl rfl (by kernel_rfl) (fun _ _ _ h => h) (y_asg rfl) (.keep (.keep .nil)) (Fz.le.refl _) ?_
            refine dD (by kernel_rfl) ?_
            refine Nt ?_
            refine drW .head ?_
            refine drW .head ?_
            exact rT rfl rfl (le_3.trans le_6) (fun _ _ h => h) ⟨rfl, rfl⟩
          · skip
            rw [hb1] at hb2; cases hb2
        · skip
          refine mv rfl rfl ?_
          refine extr rfl rfl rfl ?_
          refine extr rfl rfl rfl ?_
          refine al Tryd.zeroValue27 rfl rfl (fun b_8 => ?_)
          refine sa Tryd.sizeOf27 rfl rfl rfl rfl rfl .head ?_
          refine asg rfl rfl ?_
          refine nl ?_
          refine sr ?_
          refine mv rfl rfl ?_
          refine mv rfl rfl ?_
          refine cl rfl rfl rfl (s_version (n := n) (most := 4) hn (by omega)) rfl (fun v_ H1 L1 hle hR => ?_)
          obtain ⟨rfl, rfl, rfl⟩ := hR
          refine mv rfl rfl ?_
          refine cl rfl rfl rfl (im_StopReplicaRequestu (hB.mono le_3) hs_ (he.mono le_3) h0 h1) rfl (fun r_ H3 L3 le_10 hR => ?_)
          obtain ⟨rfl, hR⟩ := hR
          rcases hR with ⟨hb2, rfl⟩ | ⟨hb2, c2, rfl, g2⟩
          · skip
            rw [hb1] at hb2; cases hb2
          · skip
            refine mv rfl rfl ?_
            refine extr rfl rfl rfl ?_
            refine extr rfl rfl rfl ?_
            refine al Tryd.zeroValue27 rfl rfl (fun b_11 => ?_)
            refine sa Tryd.sizeOf27 rfl rfl rfl rfl rfl .head ?_
            refine asg rfl rfl ?_
            refine nl ?_
            refine sq ?_
            refine rgD 15 (.keep (.keep .nil)) mixed ?_
            refine dT 0 rfl rfl rfl (by kernel_rfl) (fun _ _ _ h => h) (y_mv rfl) (.keep (.keep .nil)) (Fz.le.refl _) ?_
            refine dT 1 rfl rfl rfl (by kernel_rfl) (fun _ _ _ h => h) (y_mv rfl) (.keep (.keep .nil)) (Fz.le.refl _) ?_
            refine dT 2 rfl rfl rfl (by kernel_rfl) (fun _ _ _ h => h) (y_eqb Tryd.underlying4 rfl rfl) (.keep (.keep .nil)) (Fz.le.refl _) ?_
            refine dT 3 rfl rfl rfl (by kernel_rfl) (fun _ _ _ h => h) (y_mv rfl) (.keep (.keep .nil)) (Fz.le.refl _) ?_
            refine dT 4 rfl rfl rfl (by kernel_rfl) (fun _ _ _ h => h) (y_gr rfl rfl (y_mv rfl)) (.keep (.keep .nil)) (Fz.le.refl _) ?_
            refine dT 5 rfl rfl rfl (by kernel_rfl) (fun _ _ _ h => h) (y_gr rfl rfl (y_nt rfl)) (.keep (.keep .nil)) (Fz.le.refl _) ?_
            refine dT 6 rfl rfl rfl (by kernel_rfl) (fun _ _ _ h => h) (y_gr rfl rfl (y_mv rfl)) (.keep (.keep .nil)) (Fz.le.refl _) ?_
            refine dT 7 rfl rfl rfl (by kernel_rfl) (fun _ _ _ h => h) (y_gr rfl rfl (y_la (Says.own (.tail .head)) Tryd.isAgg27 Tryd.sizeOf27 rfl (Nat.zero_add _).symm rfl)) (.keep (.keep .nil)) (Fz.le.refl _) ?_
            refine dT 9 rfl rfl rfl (by kernel_rfl) (fun _ _ _ h => h) (y_gr rfl rfl (y_la (Says.own .head) Tryd.isAgg27 Tryd.sizeOf27 rfl (Nat.zero_add _).symm rfl)) (.keep (.keep .nil)) (Fz.le.refl _) ?_
            refine dE 8 (by kernel_rfl) rfl ?_
            refine gr rfl rfl ?_
            refine cl rfl rfl rfl (s_got _ (g1.mono le_10)) rfl (fun v_ H1 L1 le_12 hR => ?_)
            obtain ⟨rfl, q0, rfl, k0⟩ := hR
            refine dN (.keep (.keep .nil)) le_12 ?_
            refine dE 10 (by kernel_rfl) rfl ?_
            refine gr rfl rfl ?_
            refine cl rfl rfl rfl (s_got _ (g2.mono le_12)) rfl (fun v_ H1 L1 le_13 hR => ?_)
            obtain ⟨rfl, q1, rfl, k1⟩ := hR
            refine dN (.keep (.keep .nil)) (le_12.trans le_13) ?_
            refine dE 11 (by kernel_rfl) rfl ?_
            refine gr rfl rfl ?_
            refine cl rfl rfl rfl (s_sametree _ (k0.mono le_13) k1) rfl (fun v_ H1 L1 hle hR => ?_)
            obtain ⟨rfl, rfl, rfl⟩ := hR
            refine dN (.keep (.keep .nil)) (le_12.trans le_13) ?_
            refine dT 12 rfl rfl rfl (by kernel_rfl) (fun _ _ _ h => h) (y_gr rfl rfl (y_pk rfl rfl rfl)) (.keep (.keep .nil)) (le_12.trans le_13) ?_
            refine dT 13 rfl rfl rfl (by kernel_rfl) (fun _ _ _ h => h) (y_pk rfl rfl rfl) (.keep (.keep .nil)) (le_12.trans le_13) ?_
            refine dT 14 rfl rfl rfl (by kernel_rfl) (fun _ _ _ h => h) (y_asg rfl) (.keep (.keep .nil)) (le_12.trans le_13) ?_
            refine dD (by kernel_rfl) ?_
            refine Nt ?_
            refine drW .head ?_
            refine drW .head ?_
            exact rT rfl rfl (le_3.trans (le_10.trans (le_12.trans le_13))) (fun _ _ h => h) ⟨rfl, rfl⟩
end Go.Sx

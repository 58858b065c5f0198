import Derived.Test.YtdjfaejkhpifhaaGreatDoorSxTab
import Derived.Test.YtdjfaejkhpifhaaGreatDoorCApiVersionsResponse
import Derived.Test.YtdjfaejkhpifhaaGreatDoorWApiVersionsResponse
import Derived.Test.YtdjfaejkhpifhaaGreatDoorMApiVersionsResponse
import Derived.Test.YtdjfaejkhpifhaaGreatDoorBeL
import Derived.Test.YtdjfaejkhpifhaaGreatDoorLibI
import Derived.Test.YtdjfaejkhpifhaaGreatDoorS2
import Derived.Test.YtdjfaejkhpifhaaGreatDoorTagR
import Derived.KernelRfl
set_option linter.unusedVariables false
set_option linter.unusedSimpArgs false
set_option maxRecDepth 100000
set_option maxHeartbeats 20000000
namespace Go.Sx
open Go.Proofs
theorem setv_ApiVersionsResponse {H : Fz} {L : Own} {b : Nat} {x : Int} {c0 c1 c2 c3 c4 c5 c6 c7 c8 : Value} :
  Fn Tryz.prog 29 [.pointer (some ⟨b, 0, none⟩), .int .i16 x] H ([(b, .cells [c0, c1, c2, c3, c4, c5, c6, c7, c8].toArray 98 (0, 0))] :: L) (fun _ H' L' => H = H' ∧ L' = [(b, .cells [.int .i16 x, c1, c2, c3, c4, c5, c6, c7, c8].toArray 98 (0, 0))] :: L) := by
 refine Fn.mk Tryz.call29 Tryz.func29 rfl Tryz.ntmps29 rfl ?_
 refine rg ?_
 refine mv rfl rfl ?_
 refine mv rfl rfl ?_
 refine nc rfl rfl ?_
 refine fa0 F98_0 rfl rfl ?_
 refine st Tryz.sizeOf40 rfl rfl rfl rfl .head ?_
 refine nN ?_
 exact fun _ _ hA hw => rn rfl ler ⟨rfl, rfl⟩ hA hw
theorem new_ApiVersionsResponse {H : Fz} {L : Own} :
  Fn Tryz.prog 24 [] H L (fun v H' L' => H = H' ∧ ∃ b, v = .pointer (some ⟨b, 0, none⟩) ∧ L' = [(b, .cells [.int .i16 0, .int .i16 0, .slice none 0 0, .int .i32 0, .slice none 0 0, .int .i64 (-1), .slice none 0 0, .bool false, .map none].toArray 98 (0, 0))] :: L) := by
 refine Fn.mk Tryz.call24 Tryz.func24 rfl Tryz.ntmps24 rfl ?_
 refine sr ?_
 refine asg rfl rfl ?_
 refine nl ?_
 refine sr ?_
 refine al Tryz.zeroValue98 rfl rfl (fun b_1 => ?_)
 refine nl ?_
 refine sr ?_
 refine cl rfl rfl rfl def0_ApiVersionsResponse rfl (fun v H1 L1 hle hR => ?_)
 obtain ⟨rfl, rfl⟩ := hR
 refine nl ?_
 refine sr ?_
 refine asg rfl rfl ?_
 refine nl ?_
 exact rT rfl rfl ler (fun _ _ h => h) ⟨rfl, _, rfl, rfl⟩
theorem maxv_ApiVersionsResponse {H : Fz} {L : Own} {p : Value} :
  Fn Tryz.prog 25 [p] H L (fun v H' L' => H = H' ∧ L = L' ∧ v = .int .i16 5) := by
 refine Fn.mk Tryz.call25 Tryz.func25 rfl Tryz.ntmps25 rfl ?_
 refine sr ?_
 refine asg rfl rfl ?_
 refine nl ?_
 refine sr ?_
 refine asg rfl rfl ?_
 refine nl ?_
 exact rT rfl rfl ler (fun _ _ h => h) ⟨rfl, rfl, rfl⟩
theorem max_ApiVersionsResponse {H : Fz} {L : Own} :
  Fn Tryz.prog 12 [] H L (fun v H' L' => H = H' ∧ L = L' ∧ v = .int .i64 5) := by
 refine Fn.mk Tryz.call12 Tryz.func12 rfl Tryz.ntmps12 rfl ?_
 refine sr ?_
 refine asg rfl rfl ?_
 refine nl ?_
 refine sr ?_
 refine cl rfl rfl rfl new_ApiVersionsResponse rfl (fun v H1 L1 hle hR => ?_)
 obtain ⟨rfl, b, rfl, rfl⟩ := hR
 refine cl rfl rfl rfl maxv_ApiVersionsResponse rfl (fun v H1 L1 hle hR => ?_)
 obtain ⟨rfl, rfl, rfl⟩ := hR
 refine cv Tryz.runUnderlying40 Tryz.runUnderlying3 rfl (w64 (by omega) (by omega)) rfl ?_
 refine asg rfl rfl ?_
 refine nl ?_
 refine drW .head ?_
 exact rT rfl rfl ler (fun _ _ h => h) ⟨rfl, rfl, rfl⟩
theorem rdj_ApiVersionsResponse {H : Fz} {L : Own} {b : Nat} {v : Int} {a : Option Addr} {c t : Nat} {s : List UInt8} {ev : Value} (hB : BytesAt H a c s) (hL_ : s.length ≤ BR) (he : H.at 1 0 [.iface t ev]) (hFr : (Msg.mk fs_ApiVersionsResponse 3).flexible v = true → FreshR fs_ApiVersionsResponse v ⟨s, false, !a.isNone⟩) (h0 : 0 ≤ v) (h1 : v ≤ 5) :
  Fn Tryz.prog 56 [.pointer (some ⟨b, 0, none⟩), .slice a s.length c, .bool false] H ([(b, .cells [.int .i16 v, .int .i16 0, .slice none 0 0, .int .i32 0, .slice none 0 0, .int .i64 (-1), .slice none 0 0, .bool false, .map none].toArray 98 (0, 0))] :: L) (fun r H' L' => ∃ cs : List Value, L' = [(b, .cells cs.toArray 98 (0, 0))] :: L ∧ RdEnd H' (At_ApiVersionsResponse v) (decM fs_ApiVersionsResponse v ((Msg.mk fs_ApiVersionsResponse 3).flexible v) ⟨s, false, !a.isNone⟩) (.iface t ev) r cs) := by
 by_cases hlv : v < 3
 ·
  have ef : (Msg.mk fs_ApiVersionsResponse 3).flexible v = false := by simp [Msg.flexible]; omega
  rw [ef]
  exact rd_ApiVersionsResponse_f hB hL_ he (by omega) (by omega)
 have ef : (Msg.mk fs_ApiVersionsResponse 3).flexible v = true := by simp [Msg.flexible]; omega
 rw [ef]
 exact rd_ApiVersionsResponse_t hB hL_ he (hFr ef) (by omega) (by omega)
theorem rf_ApiVersionsResponse {H : Fz} {L : Own} {b : Nat} {v : Int} {a : Option Addr} {c t : Nat} {s : List UInt8} {ev : Value} (hB : BytesAt H a c s) (hL_ : s.length ≤ BR) (he : H.at 1 0 [.iface t ev]) (hFr : (Msg.mk fs_ApiVersionsResponse 3).flexible v = true → FreshR fs_ApiVersionsResponse v ⟨s, false, !a.isNone⟩) (h0 : 0 ≤ v) (h1 : v ≤ 5) :
  Fn Tryz.prog 30 [.pointer (some ⟨b, 0, none⟩), .slice a s.length c] H ([(b, .cells [.int .i16 v, .int .i16 0, .slice none 0 0, .int .i32 0, .slice none 0 0, .int .i64 (-1), .slice none 0 0, .bool false, .map none].toArray 98 (0, 0))] :: L) (fun r H' L' => ∃ cs : List Value, L' = [(b, .cells cs.toArray 98 (0, 0))] :: L ∧ RdEnd H' (At_ApiVersionsResponse v) (decM fs_ApiVersionsResponse v ((Msg.mk fs_ApiVersionsResponse 3).flexible v) ⟨s, false, !a.isNone⟩) (.iface t ev) r cs) := by
 refine Fn.mk Tryz.call30 Tryz.func30 rfl Tryz.ntmps30 rfl ?_
 refine sr ?_
 refine asg rfl rfl ?_
 refine nl ?_
 refine sr ?_
 refine mv rfl rfl ?_
 refine mv rfl rfl ?_
 refine cl rfl rfl rfl (rdj_ApiVersionsResponse hB hL_ he hFr h0 h1) rfl (fun v_ H1 L1 le1 hR => ?_)
 obtain ⟨cs, rfl, hE⟩ := hR
 refine asg rfl rfl ?_
 refine nl ?_
 exact rT rfl rfl le1 (fun _ _ h => h) ⟨_, rfl, hE⟩
theorem app_ApiVersionsResponse {H : Fz} {L : Own} {a : Option Addr} {cap b : Nat} {D : List UInt8} {N : Chunk} {cs : List Value} {T : Tr} {v : Int} (hr : Row 5 1 a D.length cap (bytesOf D) N) (hv : H.at b 0 cs) (hA : At_ApiVersionsResponse v H T cs) (hok : OkP fs_ApiVersionsResponse v T) (h0 : 0 ≤ v) (h1 : v ≤ 5) (hb : D.length + ((Msg.mk fs_ApiVersionsResponse 3).write v T).length ≤ LIM) (hRn4 : -9223372036854775808 ≤ (T.at 4).n ∧ (T.at 4).n ≤ 9223372036854775807) :
  Fn Tryz.prog 31 [.pointer (some ⟨b, 0, none⟩), .slice a D.length cap] H (N :: L) (fun r H' L' => OutB 5 L (D ++ ((Msg.mk fs_ApiVersionsResponse 3).write v T)) r L') := by
 by_cases hlv : v < 3
 ·
  have e : ((Msg.mk fs_ApiVersionsResponse 3)).flexible v = false := by simp [Msg.flexible]; omega
  simp only [Msg.write, e] at hb ⊢
  exact app_ApiVersionsResponse_f hr hv hA hok (by omega) (by omega) hb
 have e : ((Msg.mk fs_ApiVersionsResponse 3)).flexible v = true := by simp [Msg.flexible]; omega
 simp only [Msg.write, e] at hb ⊢
 exact app_ApiVersionsResponse_t hr hv hA hok (by omega) (by omega) hb hRn4
theorem be_ApiVersionsResponse {H : Fz} {L : Own} {v : Int} {a a2 : Option Addr} {c c2 t : Nat} {s D : List UInt8} {ev : Value} (hB : BytesAt H a c s) (hs : s.length ≤ 68719476736) (hD : BytesAt H a2 c2 D) (hDl : D.length ≤ 1000) (he : H.at 1 0 [.iface t ev]) (h0 : 0 ≤ v) (h1 : v ≤ 5) (hFr : (Msg.mk fs_ApiVersionsResponse 3).flexible v = true → FreshR fs_ApiVersionsResponse v ⟨s, false, !s.isEmpty⟩) (hgood : (decM fs_ApiVersionsResponse v ((Msg.mk fs_ApiVersionsResponse 3).flexible v) ⟨s, false, !s.isEmpty⟩).2.bad = false) (hok : OkP fs_ApiVersionsResponse v (decM fs_ApiVersionsResponse v ((Msg.mk fs_ApiVersionsResponse 3).flexible v) ⟨s, false, !s.isEmpty⟩).1) (hbw : ((Msg.mk fs_ApiVersionsResponse 3).write v (decM fs_ApiVersionsResponse v ((Msg.mk fs_ApiVersionsResponse 3).flexible v) ⟨s, false, !s.isEmpty⟩).1).length ≤ 4194304000) (hRn4 : -9223372036854775808 ≤ ((decM fs_ApiVersionsResponse v ((Msg.mk fs_ApiVersionsResponse 3).flexible v) ⟨s, false, !s.isEmpty⟩).1.at 4).n ∧ ((decM fs_ApiVersionsResponse v ((Msg.mk fs_ApiVersionsResponse 3).flexible v) ⟨s, false, !s.isEmpty⟩).1.at 4).n ≤ 9223372036854775807) :
  Fn Tryz.prog 14 [.int .i64 v, .slice a2 D.length c2, .slice a s.length c] H L (fun r H' L' => ∃ x, r = .tuple #[x, .bool true] ∧ OutB 5 L (D ++ ((Msg.mk fs_ApiVersionsResponse 3).write v (decM fs_ApiVersionsResponse v ((Msg.mk fs_ApiVersionsResponse 3).flexible v) ⟨s, false, !s.isEmpty⟩).1)) x L') := by
 refine Fn.mk Tryz.call14 Tryz.func14 rfl Tryz.ntmps14 rfl ?_
 refine sr ?_
 refine asg rfl rfl ?_
 refine asg rfl rfl ?_
 refine nl ?_
 refine sr ?_
 refine cl rfl rfl rfl new_ApiVersionsResponse rfl (fun v_ H1 L1 hle hR => ?_)
 obtain ⟨rfl, b, rfl, rfl⟩ := hR
 refine asg rfl rfl ?_
 refine nl ?_
 refine sr ?_
 refine mv rfl rfl ?_
 refine mv rfl rfl ?_
 refine cv Tryz.runUnderlying3 Tryz.runUnderlying40 rfl (wrap_i16 (by omega) (by omega)) rfl ?_
 refine cl rfl rfl rfl setv_ApiVersionsResponse rfl (fun v_ H1 L1 hle hR => ?_)
 obtain ⟨rfl, rfl⟩ := hR
 refine nl ?_
 refine sq ?_
 refine sr ?_
 refine mv rfl rfl ?_
 refine mv rfl rfl ?_
 refine nilL ?_
 refine ap (news := bytesOf s) Tryz.underlying22 I5 rfl rfl (Row.nil _ _) (fun _ => .head) (src_bytes Tryz.underlying22 hB rfl) (by omega) (by unfold maxLen; omega) rfl (fun a16 c16 N16 r16 z16 => ?_)
 rw [Nat.zero_add] at r16 ⊢
 rw [List.nil_append] at r16
 refine frL r16 .head (fun H2 le2 z2 => ?_)
 have y2 := BytesAt.row z2 r16 (by unfold B47; omega)
 have en_ : (!a16.isNone) = !s.isEmpty := isNone_app (by simpa using z16) rfl
 refine cl rfl rfl rfl (rf_ApiVersionsResponse y2 (by unfold BR; omega) (he.mono le2) (by rw [en_]; exact hFr) h0 h1) rfl (fun r_ H3 L3 le3 hR => ?_)
 obtain ⟨cs, rfl, hE⟩ := hR
 rw [en_] at hE
 rcases hE with ⟨hb, rfl⟩ | ⟨hb, rfl, hA⟩
 · rw [hgood] at hb; cases hb
 refine nei0 Tryz.underlying50 rfl rfl ?_
 refine nl ?_
 refine cF rfl ?_
 refine skt ?_
 refine sr ?_
 refine mv rfl rfl ?_
 refine mv rfl rfl ?_
 refine nilL ?_
 refine ap (news := bytesOf D) Tryz.underlying22 I5 rfl rfl (Row.nil _ _) (fun _ => .head) (src_bytes Tryz.underlying22 (hD.mono (le2.trans le3)) rfl) (by omega) (by unfold maxLen; omega) rfl (fun a21 c21 N21 r21 z21 => ?_)
 rw [Nat.zero_add] at r21 ⊢
 rw [List.nil_append] at r21
 have hok_ := At_ApiVersionsResponse.ok hA
 refine frL (Row.whole (size := 9) (m := 1) (ds := cs) (by rw [hok_.1]) (by decide)) (.tail .head) (fun H4 le4 z4 => ?_)
 have hv : H4.at b 0 cs := by
  rcases z4 with ⟨h, _⟩ | ⟨g, h, h2⟩
  · cases h
  · cases h; exact h2
 refine cl rfl rfl rfl (app_ApiVersionsResponse (D := D) r21 hv (At_ApiVersionsResponse.mono v _ _ _ _ le4 hA) hok h0 h1 (by unfold LIM; omega) hRn4) rfl (fun v_ H1 L1 le_1 hR => ?_)
 obtain ⟨a22, c22, N22, rfl, rfl, h22⟩ := hR
 refine asg rfl rfl ?_
 refine asg rfl rfl ?_
 refine nl ?_
 exact rTT rfl rfl rfl (le2.trans (le3.trans (le4.trans le_1))) (fun _ _ h => h) ⟨_, rfl, OutB.of h22.1 rfl⟩
theorem rdg_ApiVersionsResponse {v : Int} (h0 : 0 ≤ v) (h1 : v ≤ 5) : GoodK v ((Msg.mk fs_ApiVersionsResponse 3).flexible v) fs_ApiVersionsResponse := by
 have hv : v = 0 ∨ v = 1 ∨ v = 2 ∨ v = 3 ∨ v = 4 ∨ v = 5 := by omega
 rcases hv with rfl | rfl | rfl | rfl | rfl | rfl <;> exact GoodK.of (by decide) (by decide) (by decide +kernel) (by decide) (by decide +kernel)
theorem rng4_ApiVersionsResponse {v : Int} {flex : Bool} {t : Tr} (hg : GoodK v flex fs_ApiVersionsResponse) (hR : Ran t) : -9223372036854775808 ≤ ((bkM fs_ApiVersionsResponse v flex t).at 4).n ∧ ((bkM fs_ApiVersionsResponse v flex t).at 4).n ≤ 9223372036854775807 :=
 bkM_i64 (j := 4) hg hR (by decide) (by decide) (by decide)
theorem law_ApiVersionsResponse {H : Fz} {L : Own} {c : TC} {t : Tr} {n tt c2 : Nat} {a2 : Option Addr} {D : List UInt8} {ev : Value} (hT : TreeAt H c t) (hD : BytesAt H a2 c2 D) (hn : n < 256) (hR : Ran t) (he : H.at 1 0 [.iface tt ev]) (hb : ∀ v : Int, 0 ≤ v → v ≤ 5 → ((Msg.mk fs_ApiVersionsResponse 3).write v t).length ≤ 4194304000) :
  Fn Tryz.prog 4 [.int .u8 (n : Int), .slice a2 D.length c2, .agg (c.cells t).toArray] H L (fun r H' L' => L = L' ∧ r = .bool true) := by
 have h0 : (0 : Int) ≤ ((n % (5 + 1) : Nat) : Int) := by omega
 have h1 : ((n % (5 + 1) : Nat) : Int) ≤ 5 := by omega
 have hbv := hb _ h0 h1
 have hgd := rdg_ApiVersionsResponse h0 h1
 obtain ⟨nn_, e1⟩ := bkM_read hgd hR (show ((Msg.mk fs_ApiVersionsResponse 3).write ((n % (5 + 1) : Nat) : Int) t).length < 4294967296 by omega) (!((Msg.mk fs_ApiVersionsResponse 3).write ((n % (5 + 1) : Nat) : Int) t).isEmpty) []
 rw [List.append_nil] at e1
 have e4 : (decM fs_ApiVersionsResponse ((n % (5 + 1) : Nat) : Int) ((Msg.mk fs_ApiVersionsResponse 3).flexible ((n % (5 + 1) : Nat) : Int)) ⟨((Msg.mk fs_ApiVersionsResponse 3).write ((n % (5 + 1) : Nat) : Int) t), false, !((Msg.mk fs_ApiVersionsResponse 3).write ((n % (5 + 1) : Nat) : Int) t).isEmpty⟩) = ((bkM fs_ApiVersionsResponse ((n % (5 + 1) : Nat) : Int) ((Msg.mk fs_ApiVersionsResponse 3).flexible ((n % (5 + 1) : Nat) : Int)) t), ⟨[], false, nn_⟩) := e1
 have hW : (Msg.mk fs_ApiVersionsResponse 3).write ((n % (5 + 1) : Nat) : Int) (bkM fs_ApiVersionsResponse ((n % (5 + 1) : Nat) : Int) ((Msg.mk fs_ApiVersionsResponse 3).flexible ((n % (5 + 1) : Nat) : Int)) t) = ((Msg.mk fs_ApiVersionsResponse 3).write ((n % (5 + 1) : Nat) : Int) t) := bkM_part hgd t
 refine Fn.mk Tryz.call4 Tryz.func4 rfl Tryz.ntmps4 rfl ?_
 refine sr ?_
 refine bx rfl rfl rfl (fun b_1 => ?_)
 refine asg rfl rfl ?_
 refine nl ?_
 refine sq ?_
 refine sr ?_
 refine mv rfl rfl ?_
 refine ls Tryz.runUnderlying22 rfl rfl ?_
 refine gt rfl rfl rfl ?_
 refine mv rfl rfl ?_
 refine spl (t := 16) rfl (fun h16 => ?_) (fun h16 => ?_)
 ·
  refine gs rfl rfl rfl rfl ?_
  refine gs rfl rfl rfl rfl ?_
  refine gs rfl rfl rfl rfl ?_
  refine pkT rfl rfl rfl rfl ?_
  refine nl ?_
  refine cT rfl ?_
  refine sr ?_
  refine asg rfl rfl ?_
  refine nl ?_
  refine drW .head ?_
  exact rT rfl rfl ler (fun _ _ h => h) ⟨rfl, rfl⟩
 ·
  refine gr rfl rfl ?_
  refine la (Says.own .head) Tryz.isAgg26 Tryz.sizeOf26 rfl (Nat.zero_add _).symm rfl rfl ?_
  refine gr rfl rfl ?_
  refine cl rfl rfl rfl (s_fits1 hT) rfl (fun v_ H1 L1 le_2 hQ => ?_)
  obtain ⟨rfl, rfl, b18, rfl⟩ := hQ
  refine gr rfl rfl ?_
  refine nt rfl rfl ?_
  refine pkF rfl rfl rfl rfl ?_
  refine nl ?_
  refine cb rfl (fun h20 => ?_) (fun h20 => ?_)
  ·
   refine sr ?_
   refine asg rfl rfl ?_
   refine nl ?_
   refine drW .head ?_
   exact rT rfl rfl ler (fun _ _ h => h) ⟨rfl, rfl⟩
  ·
   refine skt ?_
   refine sr ?_
   refine cl rfl rfl rfl max_ApiVersionsResponse rfl (fun v_ H1 L1 le_3 hQ => ?_)
   obtain ⟨rfl, rfl, rfl⟩ := hQ
   refine asg rfl rfl ?_
   refine nl ?_
   refine sq ?_
   refine sr ?_
   refine mv rfl rfl ?_
   refine lt rfl rfl rfl ?_
   refine nl ?_
   refine cd rfl (fun h23 => ?_) (fun h23 => ?_)
   ·
    exact absurd h23 (by decide)
   ·
    refine skt ?_
    refine sr ?_
    refine cl rfl rfl rfl s_ApiVersionsResponse rfl (fun v_ H1 L1 le_4 hQ => ?_)
    obtain ⟨rfl, af, rfl, hF⟩ := hQ
    refine mv rfl rfl ?_
    refine mv rfl rfl ?_
    refine cl rfl rfl rfl (s_version (n := n) (most := 5) hn (by omega)) rfl (fun v_ H1 L1 le_5 hQ => ?_)
    obtain ⟨rfl, rfl, rfl⟩ := hQ
    refine al Tryz.zeroValue31 rfl rfl (fun b_6 => ?_)
    refine sa Tryz.sizeOf31 rfl rfl rfl rfl rfl .head ?_
    refine asg rfl rfl ?_
    refine nl ?_
    refine sq ?_
    refine sr ?_
    refine mv rfl rfl ?_
    refine ls Tryz.runUnderlying22 rfl rfl ?_
    refine gt rfl rfl rfl ?_
    refine nl ?_
    refine cd rfl (fun h30 => ?_) (fun h30 => ?_)
    ·
     refine sr ?_
     refine asg rfl rfl ?_
     refine nl ?_
     refine drW .head ?_
     refine drW .head ?_
     exact rT rfl rfl le_4 (fun _ _ h => h) ⟨rfl, rfl⟩
    ·
     have hDl : D.length ≤ 1000 := by omega
     refine skt ?_
     refine sr ?_
     refine la (Says.own .head) Tryz.isAgg31 Tryz.sizeOf31 rfl (Nat.zero_add _).symm rfl rfl ?_
     refine mv rfl rfl ?_
     refine la (Says.own (.tail .head)) Tryz.isAgg26 Tryz.sizeOf26 rfl (Nat.zero_add _).symm rfl rfl ?_
     refine cl rfl rfl rfl (s_write (m := (Msg.mk fs_ApiVersionsResponse 3)) hF (hT.mono le_4) (by unfold B46; omega)) rfl (fun v_ H1 L1 le_7 hQ => ?_)
     obtain ⟨aw, cw, Nw, rfl, rfl, hw_⟩ := hQ
     refine frL hw_.1 .head (fun H9 le9 z9 => ?_)
     have y9 := BytesAt.row z9 hw_.1 (by unfold B47; omega)
     refine asg rfl rfl ?_
     refine nl ?_
     refine sr ?_
     refine mv rfl rfl ?_
     refine mv rfl rfl ?_
     refine mv rfl rfl ?_
     refine cl rfl rfl rfl (be_ApiVersionsResponse y9 (by omega) (hD.mono (le_4.trans (le_7.trans le9))) hDl (he.mono (le_4.trans (le_7.trans le9))) h0 h1 (bkM_fresh hgd hR (show ((Msg.mk fs_ApiVersionsResponse 3).write ((n % (5 + 1) : Nat) : Int) t).length < 4294967296 by omega) _) (by rw [e4]) (by rw [e4]; exact bkM_ok hgd t) (by rw [e4]; show ((Msg.mk fs_ApiVersionsResponse 3).write ((n % (5 + 1) : Nat) : Int) (bkM fs_ApiVersionsResponse ((n % (5 + 1) : Nat) : Int) ((Msg.mk fs_ApiVersionsResponse 3).flexible ((n % (5 + 1) : Nat) : Int)) t)).length ≤ _; rw [hW]; exact hbv) (by rw [e4]; exact rng4_ApiVersionsResponse hgd hR)) rfl (fun r_ H3 L3 le_8 hQ => ?_)
     obtain ⟨x_, rfl, hQ⟩ := hQ
     rw [show (decM fs_ApiVersionsResponse ((n % (5 + 1) : Nat) : Int) ((Msg.mk fs_ApiVersionsResponse 3).flexible ((n % (5 + 1) : Nat) : Int)) ⟨((Msg.mk fs_ApiVersionsResponse 3).write ((n % (5 + 1) : Nat) : Int) t), false, !((Msg.mk fs_ApiVersionsResponse 3).write ((n % (5 + 1) : Nat) : Int) t).isEmpty⟩).1 = (bkM fs_ApiVersionsResponse ((n % (5 + 1) : Nat) : Int) ((Msg.mk fs_ApiVersionsResponse 3).flexible ((n % (5 + 1) : Nat) : Int)) t) by rw [e4], hW] at hQ
     obtain ⟨ak, ck, Nk, rfl, rfl, hk_⟩ := hQ
     refine mv rfl rfl ?_
     refine extr rfl rfl rfl ?_
     refine extr rfl rfl rfl ?_
     refine asg rfl rfl ?_
     refine asg rfl rfl ?_
     refine nl ?_
     refine sr ?_
     refine mv rfl rfl ?_
     refine mv rfl rfl ?_
     refine gr rfl rfl ?_
     refine mv rfl rfl ?_
     refine gr rfl rfl ?_
     refine bs' L22 rfl rfl rfl rfl (fun b_9 => ?_)
     refine gr rfl rfl ?_
     refine mv rfl rfl ?_
     refine gr rfl rfl ?_
     refine ap (news := bytesOf D) Tryz.underlying22 I5 rfl rfl (Row.whole (m := 0) rfl (by decide)) (fun _ => .head) (src_bytes Tryz.underlying22 (hD.mono (le_4.trans (le_7.trans (le9.trans le_8)))) rfl) (by omega) (by unfold maxLen; omega) rfl (fun a47 c47 N47 q47 z47 => ?_)
     have r47 : Row 5 1 a47 D.length c47 (bytesOf D) N47 := by have h := q47; rw [Nat.zero_add] at h; exact h
     rw [Nat.zero_add]
     refine gr rfl rfl ?_
     refine mv rfl rfl ?_
     refine gr rfl rfl ?_
     refine ap (news := bytesOf ((Msg.mk fs_ApiVersionsResponse 3).write ((n % (5 + 1) : Nat) : Int) t)) Tryz.underlying22 I5 rfl rfl r47 (fun _ => .head) (src_bytes Tryz.underlying22 (y9.mono le_8) rfl) (by omega) (by unfold maxLen; omega) rfl (fun a49 c49 N49 r49 z49 => ?_)
     rw [← bytesOf_append] at r49
     refine gr rfl rfl ?_
     refine frL hk_.1 (.tail .head) (fun H8 le8 z8 => ?_)
     have y8 := BytesAt.row z8 hk_.1 (by unfold B47; simp only [List.length_append]; omega)
     refine frL r49 .head (fun H7 le7 z7 => ?_)
     have y7 := BytesAt.row z7 r49 (by unfold B47; simp only [List.length_append]; omega)
     refine cl rfl rfl rfl (s_same' (y8.mono le7) y7 rfl (by simp)) rfl (fun v_ H1 L1 le_10 hQ => ?_)
     obtain ⟨rfl, rfl, rfl⟩ := hQ
     rw [decide_eq_true (rfl : D ++ ((Msg.mk fs_ApiVersionsResponse 3).write ((n % (5 + 1) : Nat) : Int) t) = D ++ ((Msg.mk fs_ApiVersionsResponse 3).write ((n % (5 + 1) : Nat) : Int) t))]
     refine pkT rfl rfl rfl rfl ?_
     refine asg rfl rfl ?_
     refine nl ?_
     refine drW .head ?_
     refine drW .head ?_
     exact rT rfl rfl (le_4.trans (le_7.trans (le9.trans (le_8.trans (le8.trans le7))))) (fun _ _ h => h) ⟨rfl, rfl⟩
end Go.Sx

import Derived.Test.YtpcgaheplmiglaaGreatCFetchResponse
import Derived.Test.YtpcgaheplmiglaaGreatDFetchResponse
import Derived.Test.YtpcgaheplmiglaaGreatS3
import Derived.Test.YtpcgaheplmiglaaGreatTagF
import Derived.KernelRfl
set_option linter.unusedVariables false
set_option linter.unusedSimpArgs false
set_option maxRecDepth 100000
set_option maxHeartbeats 20000000
namespace Go.Sx
open Go.Proofs
theorem app_FetchResponse {H : Fz} {L : Own} {a : Option Addr} {cap b : Nat} {D : List UInt8} {N : Chunk} {cs : List Value} {T : Tr} {v : Int} (hr : Row 5 1 a D.length cap (bytesOf D) N) (hv : H.at b 0 cs) (hA : At_FetchResponse v H T cs) (hok : OkP fs_FetchResponse v T) (h0 : 0 ≤ v) (h1 : v ≤ 18) (hb : D.length + ((Msg.mk fs_FetchResponse 12).write v T).length ≤ LIM) (hRan : RanN T) :
  Fn Tryz.prog 20 [.pointer (some ⟨b, 0, none⟩), .slice a D.length cap] H (N :: L) (fun r H' L' => OutB 5 L (D ++ ((Msg.mk fs_FetchResponse 12).write v T)) r L') := by
 by_cases hlv : v < 12
 ·
  have e : ((Msg.mk fs_FetchResponse 12)).flexible v = false := by simp [Msg.flexible]; omega
  simp only [Msg.write, e] at hb ⊢
  exact app_FetchResponse_f hr hv hA hok (by omega) (by omega) hb
 have e : ((Msg.mk fs_FetchResponse 12)).flexible v = true := by simp [Msg.flexible]; omega
 simp only [Msg.write, e] at hb ⊢
 exact app_FetchResponse_t hr hv hA hok (by omega) (by omega) hb hRan
theorem setv_FetchResponse {H : Fz} {L : Own} {b : Nat} {x : Int} {cs : List Value} :
  Fn Tryz.prog 18 [.pointer (some ⟨b, 0, none⟩), .int .i16 x] H ([(b, .cells [.int .i16 0, .int .i32 0, .int .i16 0, .int .i32 0, .slice none 0 0, .slice none 0 0, .map none].toArray 58 (0, 0))] :: L) (fun _ H' L' => H = H' ∧ L' = [(b, .cells [.int .i16 x, .int .i32 0, .int .i16 0, .int .i32 0, .slice none 0 0, .slice none 0 0, .map none].toArray 58 (0, 0))] :: L) := by
 refine Fn.mk Tryz.call18 Tryz.func18 rfl Tryz.ntmps18 rfl ?_
 refine rg ?_
 refine mv rfl rfl ?_
 refine mv rfl rfl ?_
 refine nc rfl rfl ?_
 refine fa0 F58_0 rfl rfl ?_
 refine st Tryz.sizeOf45 rfl rfl rfl rfl .head ?_
 refine nN ?_
 exact fun _ _ hA hw => rn rfl ler ⟨rfl, rfl⟩ hA hw
theorem def_FetchResponse {H : Fz} {L : Own} {b : Nat} :
  Fn Tryz.prog 27 [.pointer (some ⟨b, 0, none⟩)] H ([(b, .cells [.int .i16 0, .int .i32 0, .int .i16 0, .int .i32 0, .slice none 0 0, .slice none 0 0, .map none].toArray 58 (0, 0))] :: L) (fun _ H' L' => H = H' ∧ L' = [(b, .cells [.int .i16 0, .int .i32 0, .int .i16 0, .int .i32 0, .slice none 0 0, .slice none 0 0, .map none].toArray 58 (0, 0))] :: L) := by
 refine Fn.mk Tryz.call27 Tryz.func27 rfl Tryz.ntmps27 rfl ?_
 refine skN ?_
 exact fun _ _ hA hw => rn rfl ler ⟨rfl, rfl⟩ hA hw
theorem new_FetchResponse {H : Fz} {L : Own} :
  Fn Tryz.prog 14 [] H L (fun v H' L' => H = H' ∧ ∃ b, v = .pointer (some ⟨b, 0, none⟩) ∧ L' = [(b, .cells [.int .i16 0, .int .i32 0, .int .i16 0, .int .i32 0, .slice none 0 0, .slice none 0 0, .map none].toArray 58 (0, 0))] :: L) := by
 refine Fn.mk Tryz.call14 Tryz.func14 rfl Tryz.ntmps14 rfl ?_
 refine sr ?_
 refine asg rfl rfl ?_
 refine nl ?_
 refine sr ?_
 refine al Tryz.zeroValue58 rfl rfl (fun b_1 => ?_)
 refine nl ?_
 refine sr ?_
 refine cl rfl rfl rfl def_FetchResponse rfl (fun v H1 L1 hle hR => ?_)
 obtain ⟨rfl, rfl⟩ := hR
 refine nl ?_
 refine sr ?_
 refine asg rfl rfl ?_
 refine nl ?_
 exact rT rfl rfl ler (fun _ _ h => h) ⟨rfl, _, rfl, rfl⟩
theorem maxv_FetchResponse {H : Fz} {L : Own} {p : Value} :
  Fn Tryz.prog 15 [p] H L (fun v H' L' => H = H' ∧ L = L' ∧ v = .int .i16 18) := by
 refine Fn.mk Tryz.call15 Tryz.func15 rfl Tryz.ntmps15 rfl ?_
 refine sr ?_
 refine asg rfl rfl ?_
 refine nl ?_
 refine sr ?_
 refine asg rfl rfl ?_
 refine nl ?_
 exact rT rfl rfl ler (fun _ _ h => h) ⟨rfl, rfl, rfl⟩
theorem max_FetchResponse {H : Fz} {L : Own} :
  Fn Tryz.prog 5 [] H L (fun v H' L' => H = H' ∧ L = L' ∧ v = .int .i64 18) := by
 refine Fn.mk Tryz.call5 Tryz.func5 rfl Tryz.ntmps5 rfl ?_
 refine sr ?_
 refine asg rfl rfl ?_
 refine nl ?_
 refine sr ?_
 refine cl rfl rfl rfl new_FetchResponse rfl (fun v H1 L1 hle hR => ?_)
 obtain ⟨rfl, b, rfl, rfl⟩ := hR
 refine cl rfl rfl rfl maxv_FetchResponse rfl (fun v H1 L1 hle hR => ?_)
 obtain ⟨rfl, rfl, rfl⟩ := hR
 refine cv Tryz.runUnderlying45 Tryz.runUnderlying3 rfl (w64 (by omega) (by omega)) rfl ?_
 refine asg rfl rfl ?_
 refine nl ?_
 refine drW .head ?_
 exact rT rfl rfl ler (fun _ _ h => h) ⟨rfl, rfl, rfl⟩
theorem mk_FetchResponse {H : Fz} {L : Own} {c : TC} {T : Tr} {v : Int} (hT : TreeAt H c T) (hf : Fine T) (hok : OkP fs_FetchResponse v T) (h0 : 0 ≤ v) (h1 : v ≤ 18) (hb : ((Msg.mk fs_FetchResponse 12).write v T).length ≤ 4194304000) (hRan : RanN T) :
  Fn Tryz.prog 9 [.int .i64 v, .agg (c.cells T).toArray] H L (fun r H' L' => OutB 5 L ((Msg.mk fs_FetchResponse 12).write v T) r L') := by
 refine Fn.mk Tryz.call9 Tryz.func9 rfl Tryz.ntmps9 rfl ?_
 refine sr ?_
 refine bx rfl rfl rfl (fun b_1 => ?_)
 refine asg rfl rfl ?_
 refine nl ?_
 refine sr ?_
 refine bd' S58 rfl rfl rfl ?_
 refine bx rfl rfl rfl (fun b_2 => ?_)
 refine asg rfl rfl ?_
 refine nl ?_
 refine sr ?_
 refine mv rfl rfl ?_
 refine mv rfl rfl ?_
 refine cv Tryz.runUnderlying3 Tryz.runUnderlying45 rfl (wrap_i16 (by omega) (by omega)) rfl ?_
 refine cl rfl rfl rfl (setv_FetchResponse (cs := [])) rfl (fun v_ H1 L1 hle hR => ?_)
 obtain ⟨rfl, rfl⟩ := hR
 refine nl ?_
 refine sr ?_
 refine mv rfl rfl ?_
 refine la (Says.own (.tail .head)) Tryz.isAgg39 Tryz.sizeOf39 rfl (Nat.zero_add _).symm rfl rfl ?_
 refine cl rfl rfl rfl (fill_FetchResponse hT hf) rfl (fun v_ H1 L1 le_4 hR => ?_)
 obtain ⟨cs, rfl, hA⟩ := hR
 refine nl ?_
 refine sr ?_
 refine mv rfl rfl ?_
 have hok_ := At_FetchResponse.ok hA
 refine frL (Row.whole (size := 7) (m := 1) (ds := cs) (by rw [hok_.1]) (by decide)) .head (fun H2 hle2 hfz => ?_)
 have hv : H2.at b_2 0 cs := by
  rcases hfz with ⟨h, _⟩ | ⟨g, h, h2⟩
  · cases h
  · cases h; exact h2
 refine nilL ?_
 refine cl rfl rfl rfl (app_FetchResponse (D := []) (Row.nil _ _) hv (At_FetchResponse.mono v _ _ _ _ hle2 hA) hok h0 h1 (by unfold LIM; simp only [List.length_nil]; omega) hRan) rfl (fun v_ H1 L1 le_5 hR => ?_)
 obtain ⟨a16, c16, N16, rfl, rfl, h16⟩ := hR
 refine asg rfl rfl ?_
 refine nl ?_
 refine drW (.tail .head) ?_
 exact rT rfl rfl (le_4.trans (hle2.trans le_5)) (fun _ _ h => h) (OutB.of h16.1 rfl)
theorem good_FetchResponse : GoodT fs_FetchResponse := GoodT.of (by decide) (by decide +kernel)
theorem law_FetchResponse {H : Fz} {L : Own} {c : TC} {t : Tr} {n : Nat} (hT : TreeAt H c t) (hR : RanN t) (hn : n < 256) (hb : ∀ v : Int, 0 ≤ v → v ≤ 18 → ((Msg.mk fs_FetchResponse 12).write v t).length ≤ 4194304000) :
  Fn Tryz.prog 3 [.int .u8 (n : Int), .agg (c.cells t).toArray] H L (fun r H' L' => L = L' ∧ r = .bool true) := by
 have h0 : (0 : Int) ≤ ((n % (18 + 1) : Nat) : Int) := by omega
 have h1 : ((n % (18 + 1) : Nat) : Int) ≤ 18 := by omega
 have hbv := hb _ h0 h1
 have hm : (Msg.mk fs_FetchResponse 12).write ((n % (18 + 1) : Nat) : Int) (fit fs_FetchResponse ((n % (18 + 1) : Nat) : Int) t) = (Msg.mk fs_FetchResponse 12).write ((n % (18 + 1) : Nat) : Int) t := by simp only [Msg.write]; rw [partB_fitT good_FetchResponse]
 refine Fn.mk Tryz.call3 Tryz.func3 rfl Tryz.ntmps3 rfl ?_
 refine sr ?_
 refine bx rfl rfl rfl (fun b_1 => ?_)
 refine asg rfl rfl ?_
 refine nl ?_
 refine sq ?_
 refine sr ?_
 refine la (Says.own .head) Tryz.isAgg26 Tryz.sizeOf26 rfl (Nat.zero_add _).symm rfl rfl ?_
 refine cl rfl rfl rfl (s_fits1 hT) rfl (fun v_ H1 L1 le_2 hR => ?_)
 obtain ⟨rfl, rfl, b9, rfl⟩ := hR
 refine nt rfl rfl ?_
 refine nl ?_
 refine cbU rfl (fun h10 => ?_) (fun h10 => ?_)
 ·
  refine sr ?_
  refine asg rfl rfl ?_
  refine nl ?_
  refine drW .head ?_
  exact rT rfl rfl ler (fun _ _ h => h) ⟨rfl, rfl⟩
 ·
  refine skt ?_
  refine sr ?_
  refine cl rfl rfl rfl max_FetchResponse rfl (fun v_ H1 L1 le_3 hR => ?_)
  obtain ⟨rfl, rfl, rfl⟩ := hR
  refine asg rfl rfl ?_
  refine nl ?_
  refine sq ?_
  refine sr ?_
  refine mv rfl rfl ?_
  refine lt rfl rfl rfl ?_
  refine nl ?_
  refine cdU rfl (fun h13 => ?_) (fun h13 => ?_)
  ·
   exact absurd h13 (by decide)
  ·
   refine skt ?_
   refine sr ?_
   refine cl rfl rfl rfl s_FetchResponse rfl (fun v_ H1 L1 le_4 hR => ?_)
   obtain ⟨rfl, af, rfl, hF⟩ := hR
   refine mv rfl rfl ?_
   refine mv rfl rfl ?_
   refine cl rfl rfl rfl (s_version (n := n) (most := 18) hn (by omega)) rfl (fun v_ H1 L1 le_5 hR => ?_)
   obtain ⟨rfl, rfl, rfl⟩ := hR
   refine al Tryz.zeroValue31 rfl rfl (fun b_6 => ?_)
   refine sa Tryz.sizeOf31 rfl rfl rfl rfl rfl .head ?_
   refine asg rfl rfl ?_
   refine nl ?_
   refine sq ?_
   refine rgD 14 kp2 mixed ?_
   refine dU 0 rfl rfl rfl (y_mv rfl) kp2 ler ?_
   refine dU 1 rfl rfl rfl (y_fa0 F31_0 rfl) kp2 ler ?_
   refine dU 2 rfl rfl rfl (y_ld (Says.own .head) Tryz.isAgg29 rfl (Nat.zero_add _).symm rfl) kp2 ler ?_
   refine dU 3 rfl rfl rfl (y_mv rfl) kp2 ler ?_
   refine dU 4 rfl rfl rfl (y_la (Says.own (.tail .head)) Tryz.isAgg26 Tryz.sizeOf26 rfl (Nat.zero_add _).symm rfl) kp2 ler ?_
   refine dU 8 rfl rfl rfl (y_la (Says.own .head) Tryz.isAgg31 Tryz.sizeOf31 rfl (Nat.zero_add _).symm rfl) kp2 ler ?_
   refine dU 9 rfl rfl rfl (y_mv rfl) kp2 ler ?_
   refine dU 10 rfl rfl rfl (y_la (Says.own (.tail .head)) Tryz.isAgg26 Tryz.sizeOf26 rfl (Nat.zero_add _).symm rfl) kp2 ler ?_
   refine dE 5 (by kernel_rfl) rfl ?_
   refine cl rfl rfl rfl (s_fit fs_FetchResponse ((n % (18 + 1) : Nat) : Int) hF (hT.mono le_4)) rfl (fun v_ H1 L1 le_7 hR => ?_)
   obtain ⟨rfl, cf, rfl, hf⟩ := hR
   refine dN kp2 le_7 ?_
   refine dE 6 (by kernel_rfl) rfl ?_
   refine cl rfl rfl rfl (s_given _ hf) rfl (fun v_ H1 L1 le_8 hR => ?_)
   obtain ⟨rfl, cg, rfl, hg⟩ := hR
   refine dN kp2 (le_7.trans le_8) ?_
   refine dE 7 (by kernel_rfl) rfl ?_
   refine cl rfl rfl rfl (mk_FetchResponse hg (fine_fitT good_FetchResponse _ _) (ok_fitT good_FetchResponse _ _) h0 h1 (by rw [hm]; exact hbv) (ranN_fit good_FetchResponse _ _ hR)) rfl (fun v_ H1 L1 le_9 hR => ?_)
   obtain ⟨ak, ck, Nk, rfl, rfl, hk_⟩ := hR
   refine dN (.skip (.keep (.keep .nil))) (le_7.trans (le_8.trans le_9)) ?_
   refine dE 11 (by kernel_rfl) rfl ?_
   refine cl rfl rfl rfl (s_write (m := (Msg.mk fs_FetchResponse 12)) (hF.mono (le_7.trans (le_8.trans le_9))) (hT.mono (le_4.trans (le_7.trans (le_8.trans le_9)))) (by unfold B46; omega)) rfl (fun v_ H1 L1 le_10 hR => ?_)
   obtain ⟨aw, cw, Nw, rfl, rfl, hw_⟩ := hR
   refine dN (.skip (.skip (.keep (.keep .nil)))) (le_7.trans (le_8.trans (le_9.trans le_10))) ?_
   refine dE 12 (by kernel_rfl) rfl ?_
   refine frL hk_.1 (.tail .head) (fun H8 le8 z8 => ?_)
   have y8 := BytesAt.row z8 hk_.1 (by rw [hm]; unfold B47; omega)
   refine frL hw_.1 .head (fun H9 le9 z9 => ?_)
   have y9 := BytesAt.row z9 hw_.1 (by unfold B47; omega)
   refine cl rfl rfl rfl (s_same (y8.mono le9) y9) rfl (fun v_ H1 L1 le_11 hR => ?_)
   obtain ⟨rfl, rfl, rfl⟩ := hR
   refine dN kp2 (le_7.trans (le_8.trans (le_9.trans (le_10.trans (le8.trans le9))))) ?_
   refine dU 13 rfl rfl rfl (y_asg rfl) kp2 (le_7.trans (le_8.trans (le_9.trans (le_10.trans (le8.trans le9))))) ?_
   refine dD (by kernel_rfl) ?_
   refine Nt ?_
   refine drW .head ?_
   refine drW .head ?_
   exact rT rfl rfl (le_4.trans (le_7.trans (le_8.trans (le_9.trans (le_10.trans (le8.trans le9)))))) (fun _ _ h => h) ⟨rfl, by rw [hm]; simp⟩
end Go.Sx

import Derived.Test.YtjpidbdhoiagpaaGreatDoorSxTab
import Derived.Test.YtjpidbdhoiagpaaGreatDoorCWriteTxnMarkersRequest
import Derived.Test.YtjpidbdhoiagpaaGreatDoorWWriteTxnMarkersRequest
import Derived.Test.YtjpidbdhoiagpaaGreatDoorMWriteTxnMarkersRequest
import Derived.Test.YtjpidbdhoiagpaaGreatDoorFR
import Derived.KernelRfl
set_option linter.unusedVariables false
set_option linter.unusedSimpArgs false
set_option maxRecDepth 100000
set_option maxHeartbeats 20000000
namespace Go.Sx
open Go.Proofs
theorem good_WriteTxnMarkersRequest : Good fs_WriteTxnMarkersRequest := Good.of (by decide) (by decide)
theorem setv_WriteTxnMarkersRequest {H : Fz} {L : Own} {b : Nat} {x : Int} {c0 c1 c2 : Value} :
  Fn Tryz.prog 43 [.pointer (some ⟨b, 0, none⟩), .int .i16 x] H ([(b, .cells [c0, c1, c2].toArray 97 (0, 0))] :: L) (fun _ H' L' => H = H' ∧ L' = [(b, .cells [.int .i16 x, c1, c2].toArray 97 (0, 0))] :: L) := by
 refine Fn.mk Tryz.call43 Tryz.func43 rfl Tryz.ntmps43 rfl ?_
 refine rg ?_
 refine mv rfl rfl ?_
 refine mv rfl rfl ?_
 refine nc rfl rfl ?_
 refine fa0 F97_0 rfl rfl ?_
 refine st Tryz.sizeOf45 rfl rfl rfl rfl .head ?_
 refine nN ?_
 exact fun _ _ hA hw => rn rfl ler ⟨rfl, rfl⟩ hA hw
theorem new_WriteTxnMarkersRequest {H : Fz} {L : Own} :
  Fn Tryz.prog 40 [] H L (fun v H' L' => H = H' ∧ ∃ b, v = .pointer (some ⟨b, 0, none⟩) ∧ L' = [(b, .cells [.int .i16 0, .slice none 0 0, .map none].toArray 97 (0, 0))] :: L) := by
 refine Fn.mk Tryz.call40 Tryz.func40 rfl Tryz.ntmps40 rfl ?_
 refine sr ?_
 refine asg rfl rfl ?_
 refine nl ?_
 refine sr ?_
 refine al Tryz.zeroValue97 rfl rfl (fun b_1 => ?_)
 refine nl ?_
 refine sr ?_
 refine cl rfl rfl rfl def0_WriteTxnMarkersRequest rfl (fun v H1 L1 hle hR => ?_)
 obtain ⟨rfl, rfl⟩ := hR
 refine nl ?_
 refine sr ?_
 refine asg rfl rfl ?_
 refine nl ?_
 exact rT rfl rfl ler (fun _ _ h => h) ⟨rfl, _, rfl, rfl⟩
theorem maxv_WriteTxnMarkersRequest {H : Fz} {L : Own} {p : Value} :
  Fn Tryz.prog 41 [p] H L (fun v H' L' => H = H' ∧ L = L' ∧ v = .int .i16 2) := by
 refine Fn.mk Tryz.call41 Tryz.func41 rfl Tryz.ntmps41 rfl ?_
 refine sr ?_
 refine asg rfl rfl ?_
 refine nl ?_
 refine sr ?_
 refine asg rfl rfl ?_
 refine nl ?_
 exact rT rfl rfl ler (fun _ _ h => h) ⟨rfl, rfl, rfl⟩
theorem max_WriteTxnMarkersRequest {H : Fz} {L : Own} :
  Fn Tryz.prog 18 [] H L (fun v H' L' => H = H' ∧ L = L' ∧ v = .int .i64 2) := by
 refine Fn.mk Tryz.call18 Tryz.func18 rfl Tryz.ntmps18 rfl ?_
 refine sr ?_
 refine asg rfl rfl ?_
 refine nl ?_
 refine sr ?_
 refine cl rfl rfl rfl new_WriteTxnMarkersRequest rfl (fun v H1 L1 hle hR => ?_)
 obtain ⟨rfl, b, rfl, rfl⟩ := hR
 refine cl rfl rfl rfl maxv_WriteTxnMarkersRequest rfl (fun v H1 L1 hle hR => ?_)
 obtain ⟨rfl, rfl, rfl⟩ := hR
 refine cv Tryz.runUnderlying45 Tryz.runUnderlying3 rfl (w64 (by omega) (by omega)) rfl ?_
 refine asg rfl rfl ?_
 refine nl ?_
 refine drW .head ?_
 exact rT rfl rfl ler (fun _ _ h => h) ⟨rfl, rfl, rfl⟩
theorem rdj_WriteTxnMarkersRequest {H : Fz} {L : Own} {b : Nat} {v : Int} {a : Option Addr} {c : Nat} {s : List UInt8} {e : Value} (hB : BytesAt H a c s) (hL_ : s.length ≤ BR) (he : H.at 0 0 [e]) (h0 : 0 ≤ v) (h1 : v ≤ 2) :
  Fn Tryz.prog 76 [.pointer (some ⟨b, 0, none⟩), .slice a s.length c, .bool false] H ([(b, .cells [.int .i16 v, .slice none 0 0, .map none].toArray 97 (0, 0))] :: L) (fun r H' L' => ∃ cs : List Value, L' = [(b, .cells cs.toArray 97 (0, 0))] :: L ∧ RdEnd H' (At_WriteTxnMarkersRequest v) (decP fs_WriteTxnMarkersRequest v ((Msg.mk fs_WriteTxnMarkersRequest 1).flexible v) ⟨s, false, !a.isNone⟩) e r cs) := by
 by_cases hlv : v < 1
 ·
  have ef : (Msg.mk fs_WriteTxnMarkersRequest 1).flexible v = false := by simp [Msg.flexible]; omega
  rw [ef]
  exact rd_WriteTxnMarkersRequest_f hB hL_ he (by omega) (by omega)
 have ef : (Msg.mk fs_WriteTxnMarkersRequest 1).flexible v = true := by simp [Msg.flexible]; omega
 rw [ef]
 exact rd_WriteTxnMarkersRequest_t hB hL_ he (by omega) (by omega)
theorem rf_WriteTxnMarkersRequest {H : Fz} {L : Own} {b : Nat} {v : Int} {a : Option Addr} {c : Nat} {s : List UInt8} {e : Value} (hB : BytesAt H a c s) (hL_ : s.length ≤ BR) (he : H.at 0 0 [e]) (h0 : 0 ≤ v) (h1 : v ≤ 2) :
  Fn Tryz.prog 44 [.pointer (some ⟨b, 0, none⟩), .slice a s.length c] H ([(b, .cells [.int .i16 v, .slice none 0 0, .map none].toArray 97 (0, 0))] :: L) (fun r H' L' => ∃ cs : List Value, L' = [(b, .cells cs.toArray 97 (0, 0))] :: L ∧ RdEnd H' (At_WriteTxnMarkersRequest v) (decP fs_WriteTxnMarkersRequest v ((Msg.mk fs_WriteTxnMarkersRequest 1).flexible v) ⟨s, false, !a.isNone⟩) e r cs) := by
 refine Fn.mk Tryz.call44 Tryz.func44 rfl Tryz.ntmps44 rfl ?_
 refine sr ?_
 refine asg rfl rfl ?_
 refine nl ?_
 refine sr ?_
 refine mv rfl rfl ?_
 refine mv rfl rfl ?_
 refine cl rfl rfl rfl (rdj_WriteTxnMarkersRequest hB hL_ he h0 h1) rfl (fun v_ H1 L1 le1 hR => ?_)
 obtain ⟨cs, rfl, hE⟩ := hR
 refine asg rfl rfl ?_
 refine nl ?_
 exact rT rfl rfl le1 (fun _ _ h => h) ⟨_, rfl, hE⟩
theorem app_WriteTxnMarkersRequest {H : Fz} {L : Own} {a : Option Addr} {cap b : Nat} {D : List UInt8} {N : Chunk} {cs : List Value} {T : Tr} {v : Int} (hr : Row 5 1 a D.length cap (bytesOf D) N) (hv : H.at b 0 cs) (hA : At_WriteTxnMarkersRequest v H T cs) (hok : OkP fs_WriteTxnMarkersRequest v T) (h0 : 0 ≤ v) (h1 : v ≤ 2) (hb : D.length + ((Msg.mk fs_WriteTxnMarkersRequest 1).write v T).length ≤ LIM) :
  Fn Tryz.prog 197 [.pointer (some ⟨b, 0, none⟩), .slice a D.length cap] H (N :: L) (fun r H' L' => OutB 5 L (D ++ ((Msg.mk fs_WriteTxnMarkersRequest 1).write v T)) r L') := by
 by_cases hlv : v < 1
 ·
  have e : ((Msg.mk fs_WriteTxnMarkersRequest 1)).flexible v = false := by simp [Msg.flexible]; omega
  simp only [Msg.write, e] at hb ⊢
  exact app_WriteTxnMarkersRequest_f hr hv hA hok (by omega) (by omega) hb
 have e : ((Msg.mk fs_WriteTxnMarkersRequest 1)).flexible v = true := by simp [Msg.flexible]; omega
 simp only [Msg.write, e] at hb ⊢
 exact app_WriteTxnMarkersRequest_t hr hv hA hok (by omega) (by omega) hb
theorem key_WriteTxnMarkersRequest {H : Fz} {L : Own} {p : Value} :
  Fn Tryz.prog 200 [p] H L (fun v H' L' => H = H' ∧ L = L' ∧ v = .int .i16 27) := by
 refine Fn.mk Tryz.call200 Tryz.func200 rfl Tryz.ntmps200 rfl ?_
 refine sr ?_
 refine asg rfl rfl ?_
 refine nl ?_
 refine sr ?_
 refine asg rfl rfl ?_
 refine nl ?_
 exact rT rfl rfl ler (fun _ _ h => h) ⟨rfl, rfl, rfl⟩
theorem ver_WriteTxnMarkersRequest {H : Fz} {T : Tr} {v : Int} {cs : List Value} (h : At_WriteTxnMarkersRequest v H T cs) : nth cs 0 = some (.int .i16 v) := by
 obtain ⟨a0, c0, mt, rfl, _, _⟩ := h
 rfl
theorem gv_WriteTxnMarkersRequest {H : Fz} {L : Own} {b : Nat} {v : Int} {cs : List Value} (hv : H.at b 0 cs) (hc : nth cs 0 = some (.int .i16 v)) :
  Fn Tryz.prog 198 [.pointer (some ⟨b, 0, none⟩)] H L (fun r H' L' => H = H' ∧ L = L' ∧ r = .int .i16 v) := by
 refine Fn.mk Tryz.call198 Tryz.func198 rfl Tryz.ntmps198 rfl ?_
 refine sr ?_
 refine asg rfl rfl ?_
 refine nl ?_
 refine sr ?_
 refine mv rfl rfl ?_
 refine nc rfl rfl ?_
 refine fa0 F97_0 rfl rfl ?_
 refine ld (j := 0) (Says.fz hv) Tryz.isAgg45 rfl rfl hc rfl ?_
 refine asg rfl rfl ?_
 refine nl ?_
 exact rT rfl rfl ler (fun _ _ h => h) ⟨rfl, rfl, rfl⟩
theorem fx_WriteTxnMarkersRequest {H : Fz} {L : Own} {b : Nat} {v : Int} {cs : List Value} (hv : H.at b 0 cs) (hc : nth cs 0 = some (.int .i16 v)) :
  Fn Tryz.prog 199 [.pointer (some ⟨b, 0, none⟩)] H L (fun r H' L' => H = H' ∧ L = L' ∧ r = .bool ((Msg.mk fs_WriteTxnMarkersRequest 1).flexible v)) := by
 refine Fn.mk Tryz.call199 Tryz.func199 rfl Tryz.ntmps199 rfl ?_
 refine sr ?_
 refine asg rfl rfl ?_
 refine nl ?_
 refine sr ?_
 refine mv rfl rfl ?_
 refine nc rfl rfl ?_
 refine fa0 F97_0 rfl rfl ?_
 refine ld (j := 0) (Says.fz hv) Tryz.isAgg45 rfl rfl hc rfl ?_
 refine ge rfl rfl rfl ?_
 refine asg rfl rfl ?_
 refine nl ?_
 exact rT rfl rfl ler (fun _ _ h => h) ⟨rfl, rfl, by simp [Msg.flexible]⟩
theorem ar_WriteTxnMarkersRequest {H : Fz} {L : Own} {b rf : Nat} {p : Option Addr} {hs : Bool} {x : List UInt8} {v num : Int} {T : Tr} {cs : List Value} (hp : H.at rf 0 [.pointer p]) (hi : TextAt H (idT hs x) p) (hx : x.length ≤ 32767) (hv : H.at b 0 cs) (hA : At_WriteTxnMarkersRequest v H T cs) (hok : OkP fs_WriteTxnMarkersRequest v T) (h0 : 0 ≤ v) (h1 : v ≤ 2) (hw : ((Msg.mk fs_WriteTxnMarkersRequest 1).write v T).length ≤ 68719476736) :
  Fn Tryz.prog 73 [.pointer (some ⟨rf, 0, none⟩), .slice none 0 0, .iface 59 (.pointer (some ⟨b, 0, none⟩)), .int .i32 num] H L (fun r H' L' => OutB 5 L (frameB 27 v num hs x ((Msg.mk fs_WriteTxnMarkersRequest 1).flexible v) ((Msg.mk fs_WriteTxnMarkersRequest 1).write v T)) r L') := by
 have hc0 := ver_WriteTxnMarkersRequest hA
 have hil := idB_len hs x
 rw [← idB_eq] at hil
 have fx0 := fixed_length 27 2
 have fx1 := fixed_length v 2
 have fx2 := fixed_length num 4
 refine Fn.mk Tryz.call73 Tryz.func73 rfl Tryz.ntmps73 rfl ?_
 refine sr ?_
 refine asg rfl rfl ?_
 refine nl ?_
 refine sr ?_
 refine mv rfl rfl ?_
 refine bs' L24 rfl rfl rfl rfl (fun b_1 => ?_)
 refine nilL ?_
 refine ap (k := 4) (news := bytesOf [0, 0, 0, 0]) Tryz.underlying24 I5 rfl rfl (Row.nil _ _) (fun _ => .head) (src_says Tryz.underlying24 rfl (fun _ => Says.own (.tail .head)) (bytesOf_one [0, 0, 0, 0])) (by simp only [List.length_append, List.length_nil, List.length_cons, fixed_length] at *; omega) (by unfold maxLen; simp only [List.length_append, List.length_nil, List.length_cons, fixed_length] at *; omega) rfl (fun a14 c14 N14 r14 z14 => ?_)
 obtain ⟨Z0, hZ0⟩ : ∃ z : List UInt8, z = [0, 0, 0, 0] := ⟨_, rfl⟩
 have hz4 : Z0.length = 4 := by rw [hZ0]; rfl
 rw [show (0 : Nat) + 4 = Z0.length from hz4.symm]
 have q14 : Row 5 1 a14 Z0.length c14 (bytesOf Z0) N14 := by rw [hZ0]; exact r14
 refine asg rfl rfl ?_
 refine nl ?_
 refine sr ?_
 refine mv rfl rfl ?_
 refine ivv rfl rfl key_WriteTxnMarkersRequest (fun w => by kernel_rfl) rfl (fun v_ H1 L1 hle hR => ?_)
 obtain ⟨rfl, rfl, rfl⟩ := hR
 refine asg rfl rfl ?_
 refine nl ?_
 refine sr ?_
 refine mv rfl rfl ?_
 refine ivv rfl rfl (gv_WriteTxnMarkersRequest hv hc0) (fun w => by kernel_rfl) rfl (fun v_ H1 L1 hle hR => ?_)
 obtain ⟨rfl, rfl, rfl⟩ := hR
 refine asg rfl rfl ?_
 refine nl ?_
 refine sr ?_
 refine mv rfl rfl ?_
 refine mv rfl rfl ?_
 refine cl rfl rfl rfl (k_AppendInt16 q14 (by simp only [List.length_append, List.length_nil, List.length_cons, fixed_length] at *; omega)) rfl (fun v H1 L1 hle hR => ?_)
 obtain ⟨rfl, a21, c21, N21, rfl, rfl, h21⟩ := hR
 refine asg rfl rfl ?_
 refine nl ?_
 refine sr ?_
 refine mv rfl rfl ?_
 refine mv rfl rfl ?_
 refine cl rfl rfl rfl (k_AppendInt16 h21.1 (by simp only [List.length_append, List.length_nil, List.length_cons, fixed_length] at *; omega)) rfl (fun v H1 L1 hle hR => ?_)
 obtain ⟨rfl, a24, c24, N24, rfl, rfl, h24⟩ := hR
 refine asg rfl rfl ?_
 refine nl ?_
 refine sr ?_
 refine mv rfl rfl ?_
 refine mv rfl rfl ?_
 refine cl rfl rfl rfl (k_AppendInt32 h24.1 (by simp only [List.length_append, List.length_nil, List.length_cons, fixed_length] at *; omega)) rfl (fun v H1 L1 hle hR => ?_)
 obtain ⟨rfl, a27, c27, N27, rfl, rfl, h27⟩ := hR
 refine asg rfl rfl ?_
 refine nl ?_
 refine sq ?_
 refine sr ?_
 refine mv rfl rfl ?_
 refine eq' rfl rfl rfl ?_
 rw [show decide ((27 : Int) = 7) = false from by decide]
 refine mv rfl rfl ?_
 refine gs rfl rfl rfl rfl ?_
 refine gs rfl rfl rfl rfl ?_
 refine pkF rfl rfl rfl rfl ?_
 refine nl ?_
 refine cF rfl ?_
 refine skt ?_
 refine sr ?_
 refine mv rfl rfl ?_
 refine mv rfl rfl ?_
 refine nc rfl rfl ?_
 refine fa0 F135_0 rfl rfl ?_
 refine ld (j := 0) (Says.fz hp) Tryz.isAgg98 rfl rfl rfl rfl ?_
 refine cl rfl rfl rfl (k_AppendNullableString hi hx h27.1 (by simp only [List.length_append, List.length_nil, List.length_cons, fixed_length] at *; omega)) rfl (fun v H1 L1 hle hR => ?_)
 obtain ⟨rfl, a40, c40, N40, rfl, rfl, h40⟩ := hR
 refine asg rfl rfl ?_
 refine nl ?_
 refine sq ?_
 refine sr ?_
 refine mv rfl rfl ?_
 refine ivv rfl rfl (fx_WriteTxnMarkersRequest hv hc0) (fun w => by kernel_rfl) rfl (fun v_ H1 L1 hle hR => ?_)
 obtain ⟨rfl, rfl, rfl⟩ := hR
 refine nl ?_
 refine cb rfl (fun h42 => ?_) (fun h42 => ?_)
 ·
  refine sr ?_
  refine asg rfl rfl ?_
  refine nl ?_
  refine sr ?_
  refine mv rfl rfl ?_
  refine mv rfl rfl ?_
  refine bs' L24 rfl rfl rfl rfl (fun b_5 => ?_)
  refine ap (k := 1) (news := bytesOf [0]) Tryz.underlying24 I5 rfl rfl h40.1 (fun _ => (.tail .head)) (src_says Tryz.underlying24 rfl (fun _ => Says.own .head) (bytesOf_one [0])) (by simp only [List.length_append, List.length_nil, List.length_cons, fixed_length] at *; omega) (by unfold maxLen; simp only [List.length_append, List.length_nil, List.length_cons, fixed_length] at *; omega) rfl (fun a46 c46 N46 r46 z46 => ?_)
  rw [← bytesOf_append] at r46
  have q46 : Row 5 1 a46 (((((Z0 ++ (fixed 27 2)) ++ (fixed v 2)) ++ (fixed num 4)) ++ (counted false (idT hs x).nul (sT (idT hs x)).length 2 ++ sT (idT hs x))) ++ [0]).length c46 (bytesOf (((((Z0 ++ (fixed 27 2)) ++ (fixed v 2)) ++ (fixed num 4)) ++ (counted false (idT hs x).nul (sT (idT hs x)).length 2 ++ sT (idT hs x))) ++ [0])) N46 := by rw [len_snoc0]; exact r46
  rw [← len_snoc0 ((((Z0 ++ (fixed 27 2)) ++ (fixed v 2)) ++ (fixed num 4)) ++ (counted false (idT hs x).nul (sT (idT hs x)).length 2 ++ sT (idT hs x)))]
  refine asg rfl rfl ?_
  refine nl ?_
  refine sr ?_
  refine mv rfl rfl ?_
  refine ne' rfl rfl rfl ?_
  refine nl ?_
  refine cd rfl (fun h48 => ?_) (fun h48 => ?_)
  ·
   exact absurd rfl h48
  ·
   refine skt ?_
   refine sr ?_
   refine mv rfl rfl ?_
   refine mv rfl rfl ?_
   refine tf (.tail .head) ?_
   refine ivv rfl rfl (app_WriteTxnMarkersRequest (D := _) q46 hv (At_WriteTxnMarkersRequest.mono v _ _ _ _ ler hA) hok h0 h1 (by unfold LIM; simp only [List.length_append, List.length_nil, List.length_cons] at *; omega)) (fun w => by kernel_rfl) rfl (fun v_ H1 L1 le_6 hR => ?_)
   obtain ⟨a51, c51, N51, rfl, rfl, h51⟩ := hR
   have r51 := h51.1
   refine asg rfl rfl ?_
   refine nl ?_
   refine sq ?_
   refine drW (.tail .head) ?_
   refine drW (.tail .head) ?_
   have hr_ := r51
   obtain ⟨hl_, ⟨_, hz_, _⟩ | ⟨g_, cur_, rfl, rfl, hnc_, hcm_, hcs_, htk_⟩⟩ := hr_
   · simp only [List.length_append, List.length_cons, List.length_nil] at hz_; omega
   have h4_ : 4 ≤ (((((((Z0 ++ (fixed 27 2)) ++ (fixed v 2)) ++ (fixed num 4)) ++ (counted false (idT hs x).nul (sT (idT hs x)).length 2 ++ sT (idT hs x))) ++ [0]) ++ ((Msg.mk fs_WriteTxnMarkersRequest 1).write v T))).length := by simp only [List.length_append, List.length_cons, List.length_nil]; omega
   refine rgD 7 .nil mixed ?_
   refine dU 0 rfl rfl rfl (y_mv rfl) .nil ler ?_
   refine dU 1 rfl rfl rfl (y_slh (j := 0) Tryz.runUnderlying24 Tryz.sizeOf5 rfl rfl rfl (Nat.zero_le _)) .nil ler ?_
   refine dU 2 rfl rfl rfl (y_mv rfl) .nil ler ?_
   refine dU 3 rfl rfl rfl (y_slo (j := 4) Tryz.runUnderlying24 Tryz.sizeOf5 rfl rfl rfl h4_ hnc_) .nil ler ?_
   refine dU 4 rfl rfl rfl (y_ls Tryz.runUnderlying24 rfl) .nil ler ?_
   refine dU 5 rfl rfl rfl (y_cvI Tryz.runUnderlying3 Tryz.runUnderlying21 rfl rfl) .nil ler ?_
   refine dE 6 (by kernel_rfl) rfl ?_
   refine cl rfl rfl rfl (k_AppendInt32I (by omega) (by omega)) rfl (fun v_ H1 L1 hle hR => ?_)
   obtain ⟨rfl, rfl⟩ := hR
   refine dN .nil ler ?_
   refine dD (by kernel_rfl) ?_
   refine Nt ?_
   refine sr ?_
   refine mv rfl rfl ?_
   refine asg rfl rfl ?_
   refine nl ?_
   refine rT rfl rfl le_6 (fun _ _ h => h) (OutB.of (Row.head4 (X := ((((((Z0 ++ (fixed 27 2)) ++ (fixed v 2)) ++ (fixed num 4)) ++ (counted false (idT hs x).nul (sT (idT hs x)).length 2 ++ sT (idT hs x))) ++ [0]) ++ ((Msg.mk fs_WriteTxnMarkersRequest 1).write v T))) (ys := _) hcs_ hnc_ hcm_ htk_ rfl (fixed_length _ 4) h4_) ?_)
   unfold frameB frameIn; rw [← idB_eq]; simp only [hZ0, h42, if_true, Bool.false_eq_true, if_false, List.append_assoc, List.cons_append, List.nil_append, List.append_nil, List.drop_succ_cons, List.drop_zero, List.length_append, List.length_cons, List.length_nil, fixed_i32, fixed_length]
   congr 2 <;> omega
 ·
  refine skt ?_
  refine sr ?_
  refine mv rfl rfl ?_
  refine mv rfl rfl ?_
  refine ivv rfl rfl (app_WriteTxnMarkersRequest (D := _) h40.1 hv (At_WriteTxnMarkersRequest.mono v _ _ _ _ ler hA) hok h0 h1 (by unfold LIM; simp only [List.length_append, List.length_nil, List.length_cons] at *; omega)) (fun w => by kernel_rfl) rfl (fun v_ H1 L1 le_7 hR => ?_)
  obtain ⟨a51, c51, N51, rfl, rfl, h51⟩ := hR
  have r51 := h51.1
  refine asg rfl rfl ?_
  refine nl ?_
  refine sq ?_
  refine drW (.tail .head) ?_
  have hr_ := r51
  obtain ⟨hl_, ⟨_, hz_, _⟩ | ⟨g_, cur_, rfl, rfl, hnc_, hcm_, hcs_, htk_⟩⟩ := hr_
  · simp only [List.length_append, List.length_cons, List.length_nil] at hz_; omega
  have h4_ : 4 ≤ ((((((Z0 ++ (fixed 27 2)) ++ (fixed v 2)) ++ (fixed num 4)) ++ (counted false (idT hs x).nul (sT (idT hs x)).length 2 ++ sT (idT hs x))) ++ ((Msg.mk fs_WriteTxnMarkersRequest 1).write v T))).length := by simp only [List.length_append, List.length_cons, List.length_nil]; omega
  refine rgD 7 .nil mixed ?_
  refine dU 0 rfl rfl rfl (y_mv rfl) .nil ler ?_
  refine dU 1 rfl rfl rfl (y_slh (j := 0) Tryz.runUnderlying24 Tryz.sizeOf5 rfl rfl rfl (Nat.zero_le _)) .nil ler ?_
  refine dU 2 rfl rfl rfl (y_mv rfl) .nil ler ?_
  refine dU 3 rfl rfl rfl (y_slo (j := 4) Tryz.runUnderlying24 Tryz.sizeOf5 rfl rfl rfl h4_ hnc_) .nil ler ?_
  refine dU 4 rfl rfl rfl (y_ls Tryz.runUnderlying24 rfl) .nil ler ?_
  refine dU 5 rfl rfl rfl (y_cvI Tryz.runUnderlying3 Tryz.runUnderlying21 rfl rfl) .nil ler ?_
  refine dE 6 (by kernel_rfl) rfl ?_
  refine cl rfl rfl rfl (k_AppendInt32I (by omega) (by omega)) rfl (fun v_ H1 L1 hle hR => ?_)
  obtain ⟨rfl, rfl⟩ := hR
  refine dN .nil ler ?_
  refine dD (by kernel_rfl) ?_
  refine Nt ?_
  refine sr ?_
  refine mv rfl rfl ?_
  refine asg rfl rfl ?_
  refine nl ?_
  refine rT rfl rfl le_7 (fun _ _ h => h) (OutB.of (Row.head4 (X := (((((Z0 ++ (fixed 27 2)) ++ (fixed v 2)) ++ (fixed num 4)) ++ (counted false (idT hs x).nul (sT (idT hs x)).length 2 ++ sT (idT hs x))) ++ ((Msg.mk fs_WriteTxnMarkersRequest 1).write v T))) (ys := _) hcs_ hnc_ hcm_ htk_ rfl (fixed_length _ 4) h4_) ?_)
  unfold frameB frameIn; rw [← idB_eq]; simp only [hZ0, h42, if_true, Bool.false_eq_true, if_false, List.append_assoc, List.cons_append, List.nil_append, List.append_nil, List.drop_succ_cons, List.drop_zero, List.length_append, List.length_cons, List.length_nil, fixed_i32, fixed_length]
  congr 2 <;> omega
theorem fd_WriteTxnMarkersRequest {H : Fz} {L : Own} {b : Nat} {hs : Bool} {x : List UInt8} {v num : Int} {T : Tr} {cs : List Value} (hx : x.length ≤ 32767) (hv : H.at b 0 cs) (hA : At_WriteTxnMarkersRequest v H T cs) (hok : OkP fs_WriteTxnMarkersRequest v T) (h0 : 0 ≤ v) (h1 : v ≤ 2) (hw : ((Msg.mk fs_WriteTxnMarkersRequest 1).write v T).length ≤ 68719476736) :
  Fn Tryz.prog 38 [.agg #[.bool hs, .string ⟨x.toArray⟩], .iface 59 (.pointer (some ⟨b, 0, none⟩)), .int .i32 num] H L (fun r H' L' => OutB 5 L (frameB 27 v num hs x ((Msg.mk fs_WriteTxnMarkersRequest 1).flexible v) ((Msg.mk fs_WriteTxnMarkersRequest 1).write v T)) r L') := by
 refine Fn.mk Tryz.call38 Tryz.func38 rfl Tryz.ntmps38 rfl ?_
 refine sr ?_
 refine bx rfl rfl rfl (fun b_1 => ?_)
 refine asg rfl rfl ?_
 refine nl ?_
 refine sr ?_
 refine cl rfl rfl rfl rf_new0 rfl (fun v_ H1 L1 ln0 hR => ?_)
 obtain ⟨rb0, rfl, rfl⟩ := hR
 refine asg rfl rfl ?_
 refine nl ?_
 refine sq ?_
 refine sr ?_
 refine fa0 F23_0 rfl rfl ?_
 refine ld (Says.own (.tail .head)) Tryz.isAgg4 rfl (Nat.zero_add _).symm rfl rfl ?_
 refine nl ?_
 refine cb rfl (fun h10 => ?_) (fun h10 => ?_)
 ·
  refine rg ?_
  refine fa0 F23_1 rfl rfl ?_
  refine ld (Says.own (.tail .head)) Tryz.isAgg9 rfl (Nat.zero_add _).symm rfl rfl ?_
  refine cl rfl rfl rfl rf_id rfl (fun v_ H1 L1 hle hR => ?_)
  obtain ⟨rfl, idb, rfl, rfl⟩ := hR
  refine bs' L133 rfl rfl rfl rfl (fun b_2 => ?_)
  refine cl rfl rfl rfl rf_new1 rfl (fun v_ H1 L1 ln1 hR => ?_)
  obtain ⟨rb1, rfl, rfl⟩ := hR
  refine asg rfl rfl ?_
  refine nl ?_
  refine sr ?_
  refine mv rfl rfl ?_
  refine mv rfl rfl ?_
  refine mv rfl rfl ?_
  subst h10
  refine frL (Row.whole (size := 1) (m := 1) rfl (by decide)) .head (fun Hz1 lz1 zz1 => ?_)
  have zt1 := (show Hz1.at rb1 0 _ by
   rcases zz1 with ⟨h, _⟩ | ⟨g, h, h2⟩
   · cases h
   · cases h; exact h2)
  refine frL (Row.whole (size := 1) (m := 1) rfl (by decide)) (.tail .head) (fun Hz2 lz2 zz2 => ?_)
  have zt2 := (show Hz2.at idb 0 _ by
   rcases zz2 with ⟨h, _⟩ | ⟨g, h, h2⟩
   · cases h
   · cases h; exact h2)
  refine cl rfl rfl rfl (ar_WriteTxnMarkersRequest (zt1.mono lz2) (⟨rfl, fun ad h => by cases h; exact ⟨idb, rfl, zt2⟩⟩ : TextAt _ (idT true x) (some ⟨idb, 0, none⟩)) hx (hv.mono (ln0.trans (ln1.trans (lz1.trans lz2)))) (At_WriteTxnMarkersRequest.mono v _ _ _ _ (ln0.trans (ln1.trans (lz1.trans lz2))) hA) hok h0 h1 hw) rfl (fun v_ H1 L1 le_3 hR => ?_)
  obtain ⟨a19, c19, N19, rfl, rfl, h19⟩ := hR
  refine asg rfl rfl ?_
  refine nl ?_
  refine drW (.tail .head) ?_
  refine drW (.tail .head) ?_
  refine drW (.tail .head) ?_
  exact rT rfl rfl (ln0.trans (ln1.trans (lz1.trans (lz2.trans le_3)))) (fun _ _ h => h) (OutB.of h19.1 rfl)
 ·
  refine skt ?_
  refine sr ?_
  refine mv rfl rfl ?_
  refine mv rfl rfl ?_
  refine mv rfl rfl ?_
  subst h10
  refine frL (Row.whole (size := 1) (m := 1) rfl (by decide)) .head (fun Hz1 lz1 zz1 => ?_)
  have zt1 := (show Hz1.at rb0 0 _ by
   rcases zz1 with ⟨h, _⟩ | ⟨g, h, h2⟩
   · cases h
   · cases h; exact h2)
  refine cl rfl rfl rfl (ar_WriteTxnMarkersRequest zt1 (⟨rfl, fun ad h => by cases h⟩ : TextAt _ (idT false x) none) hx (hv.mono (ln0.trans lz1)) (At_WriteTxnMarkersRequest.mono v _ _ _ _ (ln0.trans lz1) hA) hok h0 h1 hw) rfl (fun v_ H1 L1 le_4 hR => ?_)
  obtain ⟨a19, c19, N19, rfl, rfl, h19⟩ := hR
  refine asg rfl rfl ?_
  refine nl ?_
  refine drW (.tail .head) ?_
  exact rT rfl rfl (ln0.trans (lz1.trans le_4)) (fun _ _ h => h) (OutB.of h19.1 rfl)
theorem be_WriteTxnMarkersRequest {H : Fz} {L : Own} {v num : Int} {a : Option Addr} {c t : Nat} {hs : Bool} {x s : List UInt8} {ev : Value} (hB : BytesAt H a c s) (hl : s.length ≤ 68719476736) (hx : x.length ≤ 32767) (he : H.at 0 0 [.iface t ev]) (h0 : 0 ≤ v) (h1 : v ≤ 2) (hgood : (decP fs_WriteTxnMarkersRequest v ((Msg.mk fs_WriteTxnMarkersRequest 1).flexible v) ⟨s, false, !s.isEmpty⟩).2.bad = false) (hok : OkP fs_WriteTxnMarkersRequest v (decP fs_WriteTxnMarkersRequest v ((Msg.mk fs_WriteTxnMarkersRequest 1).flexible v) ⟨s, false, !s.isEmpty⟩).1) (hbw : ((Msg.mk fs_WriteTxnMarkersRequest 1).write v (decP fs_WriteTxnMarkersRequest v ((Msg.mk fs_WriteTxnMarkersRequest 1).flexible v) ⟨s, false, !s.isEmpty⟩).1).length ≤ 68719476736) :
  Fn Tryz.prog 20 [.agg #[.bool hs, .string ⟨x.toArray⟩], .int .i32 num, .int .i64 v, .slice a s.length c] H L (fun r H' L' => ∃ y, r = .tuple #[y, .bool true] ∧ OutB 5 L (frameB 27 v num hs x ((Msg.mk fs_WriteTxnMarkersRequest 1).flexible v) ((Msg.mk fs_WriteTxnMarkersRequest 1).write v (decP fs_WriteTxnMarkersRequest v ((Msg.mk fs_WriteTxnMarkersRequest 1).flexible v) ⟨s, false, !s.isEmpty⟩).1)) y L') := by
 refine Fn.mk Tryz.call20 Tryz.func20 rfl Tryz.ntmps20 rfl ?_
 refine sr ?_
 refine bx rfl rfl rfl (fun b_1 => ?_)
 refine asg rfl rfl ?_
 refine asg rfl rfl ?_
 refine nl ?_
 refine sr ?_
 refine cl rfl rfl rfl new_WriteTxnMarkersRequest rfl (fun v_ H1 L1 hle hR => ?_)
 obtain ⟨rfl, b, rfl, rfl⟩ := hR
 refine asg rfl rfl ?_
 refine nl ?_
 refine sr ?_
 refine mv rfl rfl ?_
 refine mv rfl rfl ?_
 refine cv Tryz.runUnderlying3 Tryz.runUnderlying45 rfl (wrap_i16 (by omega) (by omega)) rfl ?_
 refine cl rfl rfl rfl setv_WriteTxnMarkersRequest rfl (fun v_ H1 L1 hle hR => ?_)
 obtain ⟨rfl, rfl⟩ := hR
 refine nl ?_
 refine sq ?_
 refine sr ?_
 refine mv rfl rfl ?_
 refine mv rfl rfl ?_
 refine nilL ?_
 refine ap (news := bytesOf s) Tryz.underlying24 I5 rfl rfl (Row.nil _ _) (fun _ => .head) (src_bytes Tryz.underlying24 hB rfl) (by omega) (by unfold maxLen; omega) rfl (fun a18 c18 N18 r18 z18 => ?_)
 rw [Nat.zero_add] at r18 ⊢
 rw [List.nil_append] at r18
 refine frL r18 .head (fun H2 le2 z2 => ?_)
 have y2 := BytesAt.row z2 r18 (by unfold B47; omega)
 have en_ : (!a18.isNone) = !s.isEmpty := isNone_app (by simpa using z18) rfl
 refine cl rfl rfl rfl (rf_WriteTxnMarkersRequest y2 (by unfold BR; omega) (he.mono le2) h0 h1) rfl (fun r_ H3 L3 le3 hR => ?_)
 obtain ⟨cs, rfl, hE⟩ := hR
 rw [en_] at hE
 rcases hE with ⟨hb, rfl⟩ | ⟨hb, rfl, hA⟩
 · rw [hgood] at hb; cases hb
 refine nei0 Tryz.underlying55 rfl rfl ?_
 refine nl ?_
 refine cF rfl ?_
 refine skt ?_
 refine sr ?_
 refine la (Says.own (.tail .head)) Tryz.isAgg23 Tryz.sizeOf23 rfl (Nat.zero_add _).symm rfl rfl ?_
 refine mv rfl rfl ?_
 refine mkiP Tryz.underlying59 rfl rfl ?_
 refine mv rfl rfl ?_
 have hok_ := At_WriteTxnMarkersRequest.ok hA
 refine frL (Row.whole (size := 3) (m := 1) (ds := cs) (by rw [hok_.1]) (by decide)) .head (fun H4 le4 z4 => ?_)
 have hv := (show H4.at b 0 cs by
  rcases z4 with ⟨h, _⟩ | ⟨g, h, h2⟩
  · cases h
  · cases h; exact h2)
 refine cl rfl rfl rfl (fd_WriteTxnMarkersRequest hx hv (At_WriteTxnMarkersRequest.mono v _ _ _ _ le4 hA) hok h0 h1 hbw) rfl (fun v_ H1 L1 le_2 hR => ?_)
 obtain ⟨a25, c25, N25, rfl, rfl, h25⟩ := hR
 refine asg rfl rfl ?_
 refine asg rfl rfl ?_
 refine nl ?_
 refine drW (.tail .head) ?_
 exact rTT rfl rfl rfl (le2.trans (le3.trans (le4.trans le_2))) (fun _ _ h => h) ⟨_, rfl, OutB.of h25.1 rfl⟩
theorem rdg_WriteTxnMarkersRequest {v : Int} (h0 : 0 ≤ v) (h1 : v ≤ 2) : RdGood v ((Msg.mk fs_WriteTxnMarkersRequest 1).flexible v) fs_WriteTxnMarkersRequest := by
 refine RdGood.of ?_
 have hv : v = 0 ∨ v = 1 ∨ v = 2 := by omega
 rcases hv with rfl | rfl | rfl <;> decide +kernel
theorem law_WriteTxnMarkersRequest {H : Fz} {L : Own} {c : TC} {t : Tr} {n tt : Nat} {num : Int} {hs : Bool} {x : List UInt8} {ev : Value} (hT : TreeAt H c t) (hn : n < 256) (hR : Ran t) (he : H.at 0 0 [.iface tt ev]) (hn0 : -2147483648 ≤ num) (hn1 : num ≤ 2147483647) (hb : ∀ v : Int, 0 ≤ v → v ≤ 2 → ((Msg.mk fs_WriteTxnMarkersRequest 1).write v t).length ≤ 68719476736) :
  Fn Tryz.prog 4 [.int .u8 (n : Int), .agg #[.bool hs, .string ⟨x.toArray⟩], .int .i32 num, .agg (c.cells t).toArray] H L (fun r H' L' => L = L' ∧ r = .bool true) := by
 have h0 : (0 : Int) ≤ ((n % (2 + 1) : Nat) : Int) := by omega
 have h1 : ((n % (2 + 1) : Nat) : Int) ≤ 2 := by omega
 have hbv := hb _ h0 h1
 have hgd := rdg_WriteTxnMarkersRequest h0 h1
 obtain ⟨nn_, e1⟩ := read_bk hgd t hR (!((Msg.mk fs_WriteTxnMarkersRequest 1).write ((n % (2 + 1) : Nat) : Int) t).isEmpty) []
 rw [List.append_nil] at e1
 have e4 : (decP fs_WriteTxnMarkersRequest ((n % (2 + 1) : Nat) : Int) ((Msg.mk fs_WriteTxnMarkersRequest 1).flexible ((n % (2 + 1) : Nat) : Int)) ⟨((Msg.mk fs_WriteTxnMarkersRequest 1).write ((n % (2 + 1) : Nat) : Int) t), false, !((Msg.mk fs_WriteTxnMarkersRequest 1).write ((n % (2 + 1) : Nat) : Int) t).isEmpty⟩) = ((bkP fs_WriteTxnMarkersRequest ((n % (2 + 1) : Nat) : Int) ((Msg.mk fs_WriteTxnMarkersRequest 1).flexible ((n % (2 + 1) : Nat) : Int)) t), ⟨[], false, nn_⟩) := e1
 have hW : (Msg.mk fs_WriteTxnMarkersRequest 1).write ((n % (2 + 1) : Nat) : Int) (bkP fs_WriteTxnMarkersRequest ((n % (2 + 1) : Nat) : Int) ((Msg.mk fs_WriteTxnMarkersRequest 1).flexible ((n % (2 + 1) : Nat) : Int)) t) = ((Msg.mk fs_WriteTxnMarkersRequest 1).write ((n % (2 + 1) : Nat) : Int) t) := partB_bk hgd t
 refine Fn.mk Tryz.call4 Tryz.func4 rfl Tryz.ntmps4 rfl ?_
 refine sr ?_
 refine bx rfl rfl rfl (fun b_1 => ?_)
 refine bx rfl rfl rfl (fun b_2 => ?_)
 refine asg rfl rfl ?_
 refine nl ?_
 refine sq ?_
 refine sr ?_
 refine la (Says.own (.tail .head)) Tryz.isAgg23 Tryz.sizeOf23 rfl (Nat.zero_add _).symm rfl rfl ?_
 refine cl rfl rfl rfl s_fits4 rfl (fun v_ H1 L1 le_3 hQ => ?_)
 obtain ⟨rfl, rfl, b16, rfl⟩ := hQ
 refine nt rfl rfl ?_
 refine mv rfl rfl ?_
 refine splb (t := 18) rfl (fun h18 => ?_) (fun h18 => ?_)
 ·
  refine gs rfl rfl rfl rfl ?_
  refine gs rfl rfl rfl rfl ?_
  refine gs rfl rfl rfl rfl ?_
  refine pkT rfl rfl rfl rfl ?_
  refine nl ?_
  refine cT rfl ?_
  refine sr ?_
  refine asg rfl rfl ?_
  refine nl ?_
  refine drW .head ?_
  refine drW .head ?_
  exact rT rfl rfl ler (fun _ _ h => h) ⟨rfl, rfl⟩
 ·
  refine gr rfl rfl ?_
  refine la (Says.own .head) Tryz.isAgg28 Tryz.sizeOf28 rfl (Nat.zero_add _).symm rfl rfl ?_
  refine gr rfl rfl ?_
  refine cl rfl rfl rfl (s_fits1 hT) rfl (fun v_ H1 L1 le_4 hQ => ?_)
  obtain ⟨rfl, rfl, b20, rfl⟩ := hQ
  refine gr rfl rfl ?_
  refine nt rfl rfl ?_
  refine pkF rfl rfl rfl rfl ?_
  refine nl ?_
  refine cb rfl (fun h22 => ?_) (fun h22 => ?_)
  ·
   refine sr ?_
   refine asg rfl rfl ?_
   refine nl ?_
   refine drW .head ?_
   refine drW .head ?_
   exact rT rfl rfl ler (fun _ _ h => h) ⟨rfl, rfl⟩
  ·
   refine skt ?_
   refine sr ?_
   refine cl rfl rfl rfl max_WriteTxnMarkersRequest rfl (fun v_ H1 L1 le_5 hQ => ?_)
   obtain ⟨rfl, rfl, rfl⟩ := hQ
   refine asg rfl rfl ?_
   refine nl ?_
   refine sq ?_
   refine sr ?_
   refine mv rfl rfl ?_
   refine lt rfl rfl rfl ?_
   refine nl ?_
   refine cd rfl (fun h25 => ?_) (fun h25 => ?_)
   ·
    exact absurd h25 (by decide)
   ·
    refine skt ?_
    refine sr ?_
    refine cl rfl rfl rfl s_WriteTxnMarkersRequest rfl (fun v_ H1 L1 le_6 hQ => ?_)
    obtain ⟨rfl, af, rfl, hF⟩ := hQ
    refine mv rfl rfl ?_
    refine mv rfl rfl ?_
    refine cl rfl rfl rfl (s_version (n := n) (most := 2) hn (by omega)) rfl (fun v_ H1 L1 le_7 hQ => ?_)
    obtain ⟨rfl, rfl, rfl⟩ := hQ
    refine al Tryz.zeroValue34 rfl rfl (fun b_8 => ?_)
    refine sa Tryz.sizeOf34 rfl rfl rfl rfl rfl .head ?_
    refine asg rfl rfl ?_
    refine nl ?_
    refine sq ?_
    refine sr ?_
    refine fa0 F23_1 rfl rfl ?_
    refine ld (Says.own (.tail (.tail .head))) Tryz.isAgg9 rfl (Nat.zero_add _).symm rfl rfl ?_
    refine lt' Tryz.runUnderlying9 rfl rfl ?_
    refine gt rfl rfl rfl ?_
    refine nl ?_
    refine cd rfl (fun h33 => ?_) (fun h33 => ?_)
    ·
     refine sr ?_
     refine asg rfl rfl ?_
     refine nl ?_
     refine drW .head ?_
     refine drW .head ?_
     refine drW .head ?_
     exact rT rfl rfl le_6 (fun _ _ h => h) ⟨rfl, rfl⟩
    ·
     have hlx : x.length ≤ 32767 := by simp only [ByteArray.size, List.size_toArray] at h33; omega
     refine skt ?_
     refine sr ?_
     refine la (Says.own .head) Tryz.isAgg34 Tryz.sizeOf34 rfl (Nat.zero_add _).symm rfl rfl ?_
     refine mv rfl rfl ?_
     refine la (Says.own (.tail .head)) Tryz.isAgg28 Tryz.sizeOf28 rfl (Nat.zero_add _).symm rfl rfl ?_
     refine cl rfl rfl rfl (s_write (m := (Msg.mk fs_WriteTxnMarkersRequest 1)) hF (hT.mono le_6) (by unfold B46; omega)) rfl (fun v_ H1 L1 le_9 hQ => ?_)
     obtain ⟨aw, cw, Nw, rfl, rfl, hw_⟩ := hQ
     refine frL hw_.1 .head (fun H9 le9 z9 => ?_)
     have y9 := BytesAt.row z9 hw_.1 (by unfold B47; omega)
     refine asg rfl rfl ?_
     refine nl ?_
     refine sr ?_
     refine la (Says.own (.tail (.tail .head))) Tryz.isAgg23 Tryz.sizeOf23 rfl (Nat.zero_add _).symm rfl rfl ?_
     refine mv rfl rfl ?_
     refine mv rfl rfl ?_
     refine mv rfl rfl ?_
     refine cl rfl rfl rfl (be_WriteTxnMarkersRequest y9 hbv hlx (he.mono (le_6.trans (le_9.trans le9))) h0 h1 (by rw [e4]) (by rw [e4]; exact ok_bk hgd t) (by rw [e4]; show ((Msg.mk fs_WriteTxnMarkersRequest 1).write ((n % (2 + 1) : Nat) : Int) (bkP fs_WriteTxnMarkersRequest ((n % (2 + 1) : Nat) : Int) ((Msg.mk fs_WriteTxnMarkersRequest 1).flexible ((n % (2 + 1) : Nat) : Int)) t)).length ≤ _; rw [hW]; exact hbv)) rfl (fun r_ H3 L3 le_10 hQ => ?_)
     obtain ⟨x_, rfl, hQ⟩ := hQ
     rw [show (decP fs_WriteTxnMarkersRequest ((n % (2 + 1) : Nat) : Int) ((Msg.mk fs_WriteTxnMarkersRequest 1).flexible ((n % (2 + 1) : Nat) : Int)) ⟨((Msg.mk fs_WriteTxnMarkersRequest 1).write ((n % (2 + 1) : Nat) : Int) t), false, !((Msg.mk fs_WriteTxnMarkersRequest 1).write ((n % (2 + 1) : Nat) : Int) t).isEmpty⟩).1 = (bkP fs_WriteTxnMarkersRequest ((n % (2 + 1) : Nat) : Int) ((Msg.mk fs_WriteTxnMarkersRequest 1).flexible ((n % (2 + 1) : Nat) : Int)) t) by rw [e4], hW] at hQ
     obtain ⟨ak, ck, Nk, rfl, rfl, hk_⟩ := hQ
     refine mv rfl rfl ?_
     refine extr rfl rfl rfl ?_
     refine extr rfl rfl rfl ?_
     refine asg rfl rfl ?_
     refine asg rfl rfl ?_
     refine nl ?_
     refine sq ?_
     refine rgD 18 (.skip (.keep (.keep (.keep .nil)))) mixed ?_
     refine dU 0 rfl rfl rfl (y_mv rfl) (.skip (.keep (.keep (.keep .nil)))) ler ?_
     refine dU 1 rfl rfl rfl (y_mv rfl) (.skip (.keep (.keep (.keep .nil)))) ler ?_
     refine dU 2 rfl rfl rfl (y_gr rfl rfl (y_mv rfl)) (.skip (.keep (.keep (.keep .nil)))) ler ?_
     refine dU 3 rfl rfl rfl (y_gr rfl rfl (y_mv rfl)) (.skip (.keep (.keep (.keep .nil)))) ler ?_
     refine dU 4 rfl rfl rfl (y_gr rfl rfl (y_mv rfl)) (.skip (.keep (.keep (.keep .nil)))) ler ?_
     refine dU 5 rfl rfl rfl (y_gr rfl rfl (y_fa0 F23_0 rfl)) (.skip (.keep (.keep (.keep .nil)))) ler ?_
     refine dU 6 rfl rfl rfl (y_gr rfl rfl (y_ld (Says.own (.tail (.tail .head))) Tryz.isAgg4 rfl (Nat.zero_add _).symm rfl)) (.skip (.keep (.keep (.keep .nil)))) ler ?_
     refine dU 7 rfl rfl rfl (y_gr rfl rfl (y_fa0 F23_1 rfl)) (.skip (.keep (.keep (.keep .nil)))) ler ?_
     refine dU 8 rfl rfl rfl (y_gr rfl rfl (y_ld (Says.own (.tail (.tail .head))) Tryz.isAgg9 rfl (Nat.zero_add _).symm rfl)) (.skip (.keep (.keep (.keep .nil)))) ler ?_
     refine dU 10 rfl rfl rfl (y_gr rfl rfl (y_la (Says.own .head) Tryz.isAgg34 Tryz.sizeOf34 rfl (Nat.zero_add _).symm rfl)) (.skip (.keep (.keep (.keep .nil)))) ler ?_
     refine dU 11 rfl rfl rfl (y_gr rfl rfl (y_mv rfl)) (.skip (.keep (.keep (.keep .nil)))) ler ?_
     refine dU 13 rfl rfl rfl (y_gr rfl rfl (y_mv rfl)) (.skip (.keep (.keep (.keep .nil)))) ler ?_
     refine dE2 9 12 (by kernel_rfl) rfl rfl ?_ ?_
     ·
      refine gr rfl rfl ?_
      refine csb Tryz.underlying9 Tryz.underlying24 Tryz.underlying5 rfl (by unfold B47; omega) rfl (fun Hb55 b55 cp55 le_11 hb55 => ?_)
      refine dN (.skip (.keep (.keep (.keep .nil)))) le_11 ?_
      refine dE 12 (by kernel_rfl) rfl ?_
      refine gr rfl rfl ?_
      refine cl rfl rfl rfl (s_flexible (m := (Msg.mk fs_WriteTxnMarkersRequest 1))) rfl (fun v_ H1 L1 le_12 hQ => ?_)
      obtain ⟨rfl, rfl, rfl⟩ := hQ
      refine dN (.skip (.keep (.keep (.keep .nil)))) le_11 ?_
      refine dE 14 (by kernel_rfl) rfl ?_
      refine gr rfl rfl ?_
      refine cl rfl rfl rfl (s_frame hb55 (y9.mono (le_10.trans le_11)) (by omega) hbv hn0 hn1) rfl (fun v_ H1 L1 le_13 hQ => ?_)
      obtain ⟨af_, cf_, Nf, rfl, rfl, hf_⟩ := hQ
      refine dN (.skip (.skip (.keep (.keep (.keep .nil))))) (le_11.trans le_13) ?_
      refine dE 15 (by kernel_rfl) rfl ?_
      refine gr rfl rfl ?_
      have fl_ := frameB_len 27 ((n % (2 + 1) : Nat) : Int) num hs x ((Msg.mk fs_WriteTxnMarkersRequest 1).flexible ((n % (2 + 1) : Nat) : Int)) ((Msg.mk fs_WriteTxnMarkersRequest 1).write ((n % (2 + 1) : Nat) : Int) t)
      refine frL hk_.1 (.tail .head) (fun H8 le8 z8 => ?_)
      have y8 := BytesAt.row z8 hk_.1 (by unfold B47; omega)
      refine frL hf_.1 .head (fun H7 le7 z7 => ?_)
      have y7 := BytesAt.row z7 hf_.1 (by unfold B47; omega)
      refine cl rfl rfl rfl (s_same (y8.mono le7) y7) rfl (fun v_ H1 L1 le_14 hQ => ?_)
      obtain ⟨rfl, rfl, rfl⟩ := hQ
      rw [decide_eq_true (rfl : (frameB 27 ((n % (2 + 1) : Nat) : Int) num hs x ((Msg.mk fs_WriteTxnMarkersRequest 1).flexible ((n % (2 + 1) : Nat) : Int)) ((Msg.mk fs_WriteTxnMarkersRequest 1).write ((n % (2 + 1) : Nat) : Int) t)) = (frameB 27 ((n % (2 + 1) : Nat) : Int) num hs x ((Msg.mk fs_WriteTxnMarkersRequest 1).flexible ((n % (2 + 1) : Nat) : Int)) ((Msg.mk fs_WriteTxnMarkersRequest 1).write ((n % (2 + 1) : Nat) : Int) t)))]
      refine dN kp3 (le_11.trans (le_13.trans (le8.trans le7))) ?_
      refine dU 16 rfl rfl rfl (y_pk rfl rfl rfl) kp3 (le_11.trans (le_13.trans (le8.trans le7))) ?_
      refine dU 17 rfl rfl rfl (y_asg rfl) kp3 (le_11.trans (le_13.trans (le8.trans le7))) ?_
      refine dD (by kernel_rfl) ?_
      refine Nt ?_
      refine drW .head ?_
      refine drW .head ?_
      refine drW .head ?_
      exact rT rfl rfl (le_6.trans (le_9.trans (le9.trans (le_10.trans (le_11.trans (le_13.trans (le8.trans le7))))))) (fun _ _ h => h) ⟨rfl, rfl⟩
     ·
      refine gr rfl rfl ?_
      refine cl rfl rfl rfl (s_flexible (m := (Msg.mk fs_WriteTxnMarkersRequest 1))) rfl (fun v_ H1 L1 le_15 hQ => ?_)
      obtain ⟨rfl, rfl, rfl⟩ := hQ
      refine dN (.skip (.keep (.keep (.keep .nil)))) ler ?_
      refine dE 9 (by kernel_rfl) rfl ?_
      refine gr rfl rfl ?_
      refine csb Tryz.underlying9 Tryz.underlying24 Tryz.underlying5 rfl (by unfold B47; omega) rfl (fun Hb55 b55 cp55 le_16 hb55 => ?_)
      refine dN (.skip (.keep (.keep (.keep .nil)))) le_16 ?_
      refine dE 14 (by kernel_rfl) rfl ?_
      refine gr rfl rfl ?_
      refine cl rfl rfl rfl (s_frame hb55 (y9.mono (le_10.trans le_16)) (by omega) hbv hn0 hn1) rfl (fun v_ H1 L1 le_17 hQ => ?_)
      obtain ⟨af_, cf_, Nf, rfl, rfl, hf_⟩ := hQ
      refine dN (.skip (.skip (.keep (.keep (.keep .nil))))) (le_16.trans le_17) ?_
      refine dE 15 (by kernel_rfl) rfl ?_
      refine gr rfl rfl ?_
      have fl_ := frameB_len 27 ((n % (2 + 1) : Nat) : Int) num hs x ((Msg.mk fs_WriteTxnMarkersRequest 1).flexible ((n % (2 + 1) : Nat) : Int)) ((Msg.mk fs_WriteTxnMarkersRequest 1).write ((n % (2 + 1) : Nat) : Int) t)
      refine frL hk_.1 (.tail .head) (fun H8 le8 z8 => ?_)
      have y8 := BytesAt.row z8 hk_.1 (by unfold B47; omega)
      refine frL hf_.1 .head (fun H7 le7 z7 => ?_)
      have y7 := BytesAt.row z7 hf_.1 (by unfold B47; omega)
      refine cl rfl rfl rfl (s_same (y8.mono le7) y7) rfl (fun v_ H1 L1 le_18 hQ => ?_)
      obtain ⟨rfl, rfl, rfl⟩ := hQ
      rw [decide_eq_true (rfl : (frameB 27 ((n % (2 + 1) : Nat) : Int) num hs x ((Msg.mk fs_WriteTxnMarkersRequest 1).flexible ((n % (2 + 1) : Nat) : Int)) ((Msg.mk fs_WriteTxnMarkersRequest 1).write ((n % (2 + 1) : Nat) : Int) t)) = (frameB 27 ((n % (2 + 1) : Nat) : Int) num hs x ((Msg.mk fs_WriteTxnMarkersRequest 1).flexible ((n % (2 + 1) : Nat) : Int)) ((Msg.mk fs_WriteTxnMarkersRequest 1).write ((n % (2 + 1) : Nat) : Int) t)))]
      refine dN kp3 (le_16.trans (le_17.trans (le8.trans le7))) ?_
      refine dU 16 rfl rfl rfl (y_pk rfl rfl rfl) kp3 (le_16.trans (le_17.trans (le8.trans le7))) ?_
      refine dU 17 rfl rfl rfl (y_asg rfl) kp3 (le_16.trans (le_17.trans (le8.trans le7))) ?_
      refine dD (by kernel_rfl) ?_
      refine Nt ?_
      refine drW .head ?_
      refine drW .head ?_
      refine drW .head ?_
      exact rT rfl rfl (le_6.trans (le_9.trans (le9.trans (le_10.trans (le_16.trans (le_17.trans (le8.trans le7))))))) (fun _ _ h => h) ⟨rfl, rfl⟩
end Go.Sx

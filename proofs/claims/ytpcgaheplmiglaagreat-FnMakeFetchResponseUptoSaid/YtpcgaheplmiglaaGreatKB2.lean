import Derived.Test.YtpcgaheplmiglaaGreatSxTab
import Derived.Test.YtpcgaheplmiglaaGreatT1
import Derived.Test.YtpcgaheplmiglaaGreatOkL
import Derived.KernelRfl
set_option linter.unusedVariables false
set_option linter.unusedSimpArgs false
set_option maxRecDepth 100000
set_option maxHeartbeats 20000000
namespace Go.Sx
open Go.Proofs
theorem OutK.cast {P : Program} {f : FuncId} {args : List Value} {H : Fz} {L L0 : Own} {X Y : List UInt8} (h : Fn P f args H L0 (OutK L X H)) (e : X = Y) : Fn P f args H L0 (OutK L Y H) := e ▸ h
theorem k_AppendCompactString {H : Fz} {L : Own} {a : Option Addr} {cap : Nat} {X : List UInt8} {N : Chunk} {x : List UInt8} (hx32 : x.length ≤ 1000000000) (hr : Row 5 1 a X.length cap (bytesOf X) N) (hb : X.length + ((counted true false x.length 2 ++ x)).length ≤ 4294967295) :
  Fn Tryz.prog 37 [.slice a X.length cap, .string ⟨x.toArray⟩] H (N :: L) (OutK L (X ++ (counted true false x.length 2 ++ x)) H) := by
 refine Fn.mk Tryz.call37 Tryz.func37 rfl Tryz.ntmps37 rfl ?_
 refine sr ?_
 refine asg rfl rfl ?_
 refine nl ?_
 refine sr ?_
 refine mv rfl rfl ?_
 refine mv rfl rfl ?_
 refine lt' Tryz.runUnderlying9 rfl rfl ?_
 refine cv Tryz.runUnderlying3 Tryz.runUnderlying62 rfl ((w32u (by simp only [ByteArray.size, List.size_toArray]; omega) (by simp only [ByteArray.size, List.size_toArray]; omega)).trans (rfl : _ = ((x.length : Nat) : Int))) rfl ?_
 refine ad rfl rfl ((w32u (by omega) (by omega)).trans (by omega : _ = ((x.length + 1 : Nat) : Int))) rfl ?_
 refine cl rfl rfl rfl (k_AppendUvarint (n := x.length + 1) (by omega) hr (by have h := hb; (try simp only [counted_ff, counted_tf, counted_ft, counted_tt, uvar0, fixed_length, List.length_append, List.length_cons, List.length_nil, List.append_nil] at h); (try simp only [counted_ff, counted_tf, counted_ft, counted_tt, uvar0, fixed_length, List.length_append, List.length_cons, List.length_nil, List.append_nil]); omega)) rfl (fun v H1 L1 hle hR => ?_)
 obtain ⟨rfl, a10, c10, N10, rfl, rfl, h10⟩ := hR
 refine asg rfl rfl ?_
 refine nl ?_
 refine sr ?_
 refine mv rfl rfl ?_
 refine mv rfl rfl ?_
 refine ap (news := bytesOf x) Tryz.underlying22 I5 rfl rfl h10.1 (fun _ => .head) (src_text x Tryz.underlying9) (by have h := hb; (try simp only [counted_ff, counted_tf, counted_ft, counted_tt, uvar0, fixed_length, List.length_append, List.length_cons, List.length_nil, List.append_nil] at h); (try simp only [counted_ff, counted_tf, counted_ft, counted_tt, uvar0, fixed_length, List.length_append, List.length_cons, List.length_nil, List.append_nil]); omega) (by have h := hb; (try simp only [counted_ff, counted_tf, counted_ft, counted_tt, uvar0, fixed_length, List.length_append, List.length_cons, List.length_nil, List.append_nil] at h); (try simp only [counted_ff, counted_tf, counted_ft, counted_tt, uvar0, fixed_length, List.length_append, List.length_cons, List.length_nil, List.append_nil]); unfold maxLen; omega) rfl (fun a13 c13 N13 r13 z13 => ?_)
 rw [← bytesOf_append] at r13
 refine asg rfl rfl ?_
 refine nl ?_
 exact rT rfl rfl ler (fun _ _ h => h) ⟨rfl, OutB.of r13 (by rw [List.append_assoc]; rfl)⟩
theorem k_AppendCompactBytes {H : Fz} {L : Own} {a : Option Addr} {cap : Nat} {X : List UInt8} {N : Chunk} {x : List UInt8} {xa : Option Addr} {xc : Nat} (hx32 : x.length ≤ 1000000000) (hx : BytesAt H xa xc x) (hr : Row 5 1 a X.length cap (bytesOf X) N) (hb : X.length + ((counted true false x.length 4 ++ x)).length ≤ 4294967295) :
  Fn Tryz.prog 79 [.slice a X.length cap, .slice xa x.length xc] H (N :: L) (OutK L (X ++ (counted true false x.length 4 ++ x)) H) := by
 refine Fn.mk Tryz.call79 Tryz.func79 rfl Tryz.ntmps79 rfl ?_
 refine sr ?_
 refine asg rfl rfl ?_
 refine nl ?_
 refine sr ?_
 refine mv rfl rfl ?_
 refine mv rfl rfl ?_
 refine ls Tryz.runUnderlying22 rfl rfl ?_
 refine cv Tryz.runUnderlying3 Tryz.runUnderlying62 rfl (w32u (by omega) (by omega)) rfl ?_
 refine ad rfl rfl ((w32u (by omega) (by omega)).trans (by omega : _ = ((x.length + 1 : Nat) : Int))) rfl ?_
 refine cl rfl rfl rfl (k_AppendUvarint (n := x.length + 1) (by omega) hr (by have h := hb; (try simp only [counted_ff, counted_tf, counted_ft, counted_tt, uvar0, fixed_length, List.length_append, List.length_cons, List.length_nil, List.append_nil] at h); (try simp only [counted_ff, counted_tf, counted_ft, counted_tt, uvar0, fixed_length, List.length_append, List.length_cons, List.length_nil, List.append_nil]); omega)) rfl (fun v H1 L1 hle hR => ?_)
 obtain ⟨rfl, a10, c10, N10, rfl, rfl, h10⟩ := hR
 refine asg rfl rfl ?_
 refine nl ?_
 refine sr ?_
 refine mv rfl rfl ?_
 refine mv rfl rfl ?_
 refine ap (news := bytesOf x) Tryz.underlying22 I5 rfl rfl h10.1 (fun _ => .head) (src_bytes Tryz.underlying22 hx rfl) (by have h := hb; (try simp only [counted_ff, counted_tf, counted_ft, counted_tt, uvar0, fixed_length, List.length_append, List.length_cons, List.length_nil, List.append_nil] at h); (try simp only [counted_ff, counted_tf, counted_ft, counted_tt, uvar0, fixed_length, List.length_append, List.length_cons, List.length_nil, List.append_nil]); omega) (by have h := hb; (try simp only [counted_ff, counted_tf, counted_ft, counted_tt, uvar0, fixed_length, List.length_append, List.length_cons, List.length_nil, List.append_nil] at h); (try simp only [counted_ff, counted_tf, counted_ft, counted_tt, uvar0, fixed_length, List.length_append, List.length_cons, List.length_nil, List.append_nil]); unfold maxLen; omega) rfl (fun a13 c13 N13 r13 z13 => ?_)
 rw [← bytesOf_append] at r13
 refine asg rfl rfl ?_
 refine nl ?_
 exact rT rfl rfl ler (fun _ _ h => h) ⟨rfl, OutB.of r13 (by rw [List.append_assoc]; rfl)⟩
theorem k_AppendCompactArrayLen {H : Fz} {L : Own} {a : Option Addr} {cap : Nat} {X : List UInt8} {N : Chunk} {n : Nat} (hx32 : n ≤ 1000000000) (hr : Row 5 1 a X.length cap (bytesOf X) N) (hb : X.length + ((counted true false n 4)).length ≤ 4294967295) :
  Fn Tryz.prog 35 [.slice a X.length cap, .int .i64 (n : Int)] H (N :: L) (OutK L (X ++ (counted true false n 4)) H) := by
 refine Fn.mk Tryz.call35 Tryz.func35 rfl Tryz.ntmps35 rfl ?_
 refine sr ?_
 refine asg rfl rfl ?_
 refine nl ?_
 refine sr ?_
 refine mv rfl rfl ?_
 refine mv rfl rfl ?_
 refine cv Tryz.runUnderlying3 Tryz.runUnderlying62 rfl (w32u (by omega) (by omega)) rfl ?_
 refine ad rfl rfl ((w32u (by omega) (by omega)).trans (by omega : _ = ((n + 1 : Nat) : Int))) rfl ?_
 refine cl rfl rfl rfl (k_AppendUvarint (n := n + 1) (by omega) hr (by have h := hb; (try simp only [counted_ff, counted_tf, counted_ft, counted_tt, uvar0, fixed_length, List.length_append, List.length_cons, List.length_nil, List.append_nil] at h); (try simp only [counted_ff, counted_tf, counted_ft, counted_tt, uvar0, fixed_length, List.length_append, List.length_cons, List.length_nil, List.append_nil]); omega)) rfl (fun v H1 L1 hle hR => ?_)
 obtain ⟨rfl, a9, c9, N9, rfl, rfl, h9⟩ := hR
 refine asg rfl rfl ?_
 refine nl ?_
 exact rT rfl rfl ler (fun _ _ h => h) ⟨rfl, OutB.of h9.1 (rfl)⟩
theorem k_AppendNullableString {H : Fz} {L : Own} {a : Option Addr} {cap : Nat} {X : List UInt8} {N : Chunk} {T : Tr} {p : Option Addr} (hT : TextAt H T p) (hl : T.s.length ≤ 32767) (hr : Row 5 1 a X.length cap (bytesOf X) N) (hb : X.length + ((counted false T.nul (sT T).length 2 ++ sT T)).length ≤ 4294967295) :
  Fn Tryz.prog 58 [.slice a X.length cap, .pointer p] H (N :: L) (OutK L (X ++ (counted false T.nul (sT T).length 2 ++ sT T)) H) := by
 refine Fn.mk Tryz.call58 Tryz.func58 rfl Tryz.ntmps58 rfl ?_
 refine sr ?_
 refine asg rfl rfl ?_
 refine nl ?_
 refine sq ?_
 refine sr ?_
 refine mv rfl rfl ?_
 refine epn Tryz.underlying77 rfl rfl ?_
 refine nl ?_
 refine cbU rfl (fun h6 => ?_) (fun h6 => ?_)
 ·
  obtain rfl : p = none := by simpa using h6
  have hn : T.nul = true := hT.nul.symm
  simp only [hn, sT, if_true] at hb ⊢
  refine sr ?_
  refine mv rfl rfl ?_
  refine cl rfl rfl rfl (k_AppendInt16 (u := -1) hr (by have h := hb; (try simp only [counted_ff, counted_tf, counted_ft, counted_tt, uvar0, fixed_length, List.length_append, List.length_cons, List.length_nil, List.append_nil] at h); (try simp only [counted_ff, counted_tf, counted_ft, counted_tt, uvar0, fixed_length, List.length_append, List.length_cons, List.length_nil, List.append_nil]); omega)) rfl (fun v H1 L1 hle hR => ?_)
  obtain ⟨rfl, a8, c8, N8, rfl, rfl, h8⟩ := hR
  refine asg rfl rfl ?_
  refine nl ?_
  exact rT rfl rfl ler (fun _ _ h => h) ⟨rfl, OutB.of h8.1 (by simp [counted_ft, counted_tt, uvar_end])⟩
 ·
  obtain ⟨ad, rfl⟩ : ∃ ad, p = some ad := by cases p with | none => simp at h6 | some ad => exact ⟨ad, rfl⟩
  have hn : T.nul = false := hT.nul.symm
  obtain ⟨pb, rfl, hpb⟩ := hT.val _ rfl
  simp only [hn, sT, Bool.false_eq_true, if_false] at hb ⊢
  refine skt ?_
  refine sr ?_
  refine mv rfl rfl ?_
  refine mv rfl rfl ?_
  refine nc rfl rfl ?_
  refine ld (Says.fz hpb) Tryz.isAgg9 rfl (Nat.add_zero _).symm rfl rfl ?_
  refine cl rfl rfl rfl (k_AppendString (x := T.s) hr (by have h := hb; (try simp only [counted_ff, counted_tf, counted_ft, counted_tt, uvar0, fixed_length, List.length_append, List.length_cons, List.length_nil, List.append_nil] at h); (try simp only [counted_ff, counted_tf, counted_ft, counted_tt, uvar0, fixed_length, List.length_append, List.length_cons, List.length_nil, List.append_nil]); omega)) rfl (fun v H1 L1 hle hR => ?_)
  obtain ⟨rfl, a13, c13, N13, rfl, rfl, h13⟩ := hR
  refine asg rfl rfl ?_
  refine nl ?_
  exact rT rfl rfl ler (fun _ _ h => h) ⟨rfl, OutB.of h13.1 (rfl)⟩
theorem k_AppendCompactNullableString {H : Fz} {L : Own} {a : Option Addr} {cap : Nat} {X : List UInt8} {N : Chunk} {T : Tr} {p : Option Addr} (hT : TextAt H T p) (hl : T.s.length ≤ 32767) (hr : Row 5 1 a X.length cap (bytesOf X) N) (hb : X.length + ((counted true T.nul (sT T).length 2 ++ sT T)).length ≤ 4294967295) :
  Fn Tryz.prog 57 [.slice a X.length cap, .pointer p] H (N :: L) (OutK L (X ++ (counted true T.nul (sT T).length 2 ++ sT T)) H) := by
 refine Fn.mk Tryz.call57 Tryz.func57 rfl Tryz.ntmps57 rfl ?_
 refine sr ?_
 refine asg rfl rfl ?_
 refine nl ?_
 refine sq ?_
 refine sr ?_
 refine mv rfl rfl ?_
 refine epn Tryz.underlying77 rfl rfl ?_
 refine nl ?_
 refine cbU rfl (fun h6 => ?_) (fun h6 => ?_)
 ·
  obtain rfl : p = none := by simpa using h6
  have hn : T.nul = true := hT.nul.symm
  simp only [hn, sT, if_true] at hb ⊢
  refine sr ?_
  refine mv rfl rfl ?_
  refine cl rfl rfl rfl (k_AppendUvarint (n := 0) (by omega) hr (by have h := hb; (try simp only [counted_ff, counted_tf, counted_ft, counted_tt, uvar0, fixed_length, List.length_append, List.length_cons, List.length_nil, List.append_nil] at h); (try simp only [counted_ff, counted_tf, counted_ft, counted_tt, uvar0, fixed_length, List.length_append, List.length_cons, List.length_nil, List.append_nil]); omega)) rfl (fun v H1 L1 hle hR => ?_)
  obtain ⟨rfl, a8, c8, N8, rfl, rfl, h8⟩ := hR
  refine asg rfl rfl ?_
  refine nl ?_
  exact rT rfl rfl ler (fun _ _ h => h) ⟨rfl, OutB.of h8.1 (by simp [counted_ft, counted_tt, uvar_end])⟩
 ·
  obtain ⟨ad, rfl⟩ : ∃ ad, p = some ad := by cases p with | none => simp at h6 | some ad => exact ⟨ad, rfl⟩
  have hn : T.nul = false := hT.nul.symm
  obtain ⟨pb, rfl, hpb⟩ := hT.val _ rfl
  simp only [hn, sT, Bool.false_eq_true, if_false] at hb ⊢
  refine skt ?_
  refine sr ?_
  refine mv rfl rfl ?_
  refine mv rfl rfl ?_
  refine nc rfl rfl ?_
  refine ld (Says.fz hpb) Tryz.isAgg9 rfl (Nat.add_zero _).symm rfl rfl ?_
  refine cl rfl rfl rfl (k_AppendCompactString (x := T.s) (by omega) hr (by have h := hb; (try simp only [counted_ff, counted_tf, counted_ft, counted_tt, uvar0, fixed_length, List.length_append, List.length_cons, List.length_nil, List.append_nil] at h); (try simp only [counted_ff, counted_tf, counted_ft, counted_tt, uvar0, fixed_length, List.length_append, List.length_cons, List.length_nil, List.append_nil]); omega)) rfl (fun v H1 L1 hle hR => ?_)
  obtain ⟨rfl, a13, c13, N13, rfl, rfl, h13⟩ := hR
  refine asg rfl rfl ?_
  refine nl ?_
  exact rT rfl rfl ler (fun _ _ h => h) ⟨rfl, OutB.of h13.1 (rfl)⟩
theorem k_AppendNullableBytes {H : Fz} {L : Own} {a : Option Addr} {cap : Nat} {X : List UInt8} {N : Chunk} {T : Tr} {xa : Option Addr} {xc : Nat} (hT : OctAt H T xa xc) (hl : T.s.length ≤ 32767) (hr : Row 5 1 a X.length cap (bytesOf X) N) (hb : X.length + ((counted false T.nul (sT T).length 4 ++ sT T)).length ≤ 4294967295) :
  Fn Tryz.prog 47 [.slice a X.length cap, .slice xa (sT T).length xc] H (N :: L) (OutK L (X ++ (counted false T.nul (sT T).length 4 ++ sT T)) H) := by
 refine Fn.mk Tryz.call47 Tryz.func47 rfl Tryz.ntmps47 rfl ?_
 refine sr ?_
 refine asg rfl rfl ?_
 refine nl ?_
 refine sq ?_
 refine sr ?_
 refine mv rfl rfl ?_
 refine esn Tryz.underlying22 rfl rfl ?_
 refine nl ?_
 refine cbU rfl (fun h6 => ?_) (fun h6 => ?_)
 ·
  have hn : T.nul = true := hT.nul.symm.trans h6
  simp only [hn, sT, if_true] at hb ⊢
  refine sr ?_
  refine mv rfl rfl ?_
  refine cl rfl rfl rfl (k_AppendInt32 (u := -1) hr (by have h := hb; (try simp only [counted_ff, counted_tf, counted_ft, counted_tt, uvar0, fixed_length, List.length_append, List.length_cons, List.length_nil, List.append_nil] at h); (try simp only [counted_ff, counted_tf, counted_ft, counted_tt, uvar0, fixed_length, List.length_append, List.length_cons, List.length_nil, List.append_nil]); omega)) rfl (fun v H1 L1 hle hR => ?_)
  obtain ⟨rfl, a8, c8, N8, rfl, rfl, h8⟩ := hR
  refine asg rfl rfl ?_
  refine nl ?_
  exact rT rfl rfl ler (fun _ _ h => h) ⟨rfl, OutB.of h8.1 (by simp [counted_ft, counted_tt, uvar_end])⟩
 ·
  have hn : T.nul = false := hT.nul.symm.trans h6
  have hsT : sT T = T.s := by simp [sT, hn]
  have hv := hT.val
  rw [hsT] at hv hb ⊢
  simp only [hn] at hb ⊢
  refine skt ?_
  refine sr ?_
  refine mv rfl rfl ?_
  refine mv rfl rfl ?_
  refine cl rfl rfl rfl (k_AppendBytes (x := T.s) hv hr (by have h := hb; (try simp only [counted_ff, counted_tf, counted_ft, counted_tt, uvar0, fixed_length, List.length_append, List.length_cons, List.length_nil, List.append_nil] at h); (try simp only [counted_ff, counted_tf, counted_ft, counted_tt, uvar0, fixed_length, List.length_append, List.length_cons, List.length_nil, List.append_nil]); omega)) rfl (fun v H1 L1 hle hR => ?_)
  obtain ⟨rfl, a11, c11, N11, rfl, rfl, h11⟩ := hR
  refine asg rfl rfl ?_
  refine nl ?_
  exact rT rfl rfl ler (fun _ _ h => h) ⟨rfl, OutB.of h11.1 (rfl)⟩
theorem k_AppendCompactNullableBytes {H : Fz} {L : Own} {a : Option Addr} {cap : Nat} {X : List UInt8} {N : Chunk} {T : Tr} {xa : Option Addr} {xc : Nat} (hT : OctAt H T xa xc) (hl : T.s.length ≤ 32767) (hr : Row 5 1 a X.length cap (bytesOf X) N) (hb : X.length + ((counted true T.nul (sT T).length 4 ++ sT T)).length ≤ 4294967295) :
  Fn Tryz.prog 46 [.slice a X.length cap, .slice xa (sT T).length xc] H (N :: L) (OutK L (X ++ (counted true T.nul (sT T).length 4 ++ sT T)) H) := by
 refine Fn.mk Tryz.call46 Tryz.func46 rfl Tryz.ntmps46 rfl ?_
 refine sr ?_
 refine asg rfl rfl ?_
 refine nl ?_
 refine sq ?_
 refine sr ?_
 refine mv rfl rfl ?_
 refine esn Tryz.underlying22 rfl rfl ?_
 refine nl ?_
 refine cbU rfl (fun h6 => ?_) (fun h6 => ?_)
 ·
  have hn : T.nul = true := hT.nul.symm.trans h6
  simp only [hn, sT, if_true] at hb ⊢
  refine sr ?_
  refine mv rfl rfl ?_
  refine cl rfl rfl rfl (k_AppendUvarint (n := 0) (by omega) hr (by have h := hb; (try simp only [counted_ff, counted_tf, counted_ft, counted_tt, uvar0, fixed_length, List.length_append, List.length_cons, List.length_nil, List.append_nil] at h); (try simp only [counted_ff, counted_tf, counted_ft, counted_tt, uvar0, fixed_length, List.length_append, List.length_cons, List.length_nil, List.append_nil]); omega)) rfl (fun v H1 L1 hle hR => ?_)
  obtain ⟨rfl, a8, c8, N8, rfl, rfl, h8⟩ := hR
  refine asg rfl rfl ?_
  refine nl ?_
  exact rT rfl rfl ler (fun _ _ h => h) ⟨rfl, OutB.of h8.1 (by simp [counted_ft, counted_tt, uvar_end])⟩
 ·
  have hn : T.nul = false := hT.nul.symm.trans h6
  have hsT : sT T = T.s := by simp [sT, hn]
  have hv := hT.val
  rw [hsT] at hv hb ⊢
  simp only [hn] at hb ⊢
  refine skt ?_
  refine sr ?_
  refine mv rfl rfl ?_
  refine mv rfl rfl ?_
  refine cl rfl rfl rfl (k_AppendCompactBytes (x := T.s) (by omega) hv hr (by have h := hb; (try simp only [counted_ff, counted_tf, counted_ft, counted_tt, uvar0, fixed_length, List.length_append, List.length_cons, List.length_nil, List.append_nil] at h); (try simp only [counted_ff, counted_tf, counted_ft, counted_tt, uvar0, fixed_length, List.length_append, List.length_cons, List.length_nil, List.append_nil]); omega)) rfl (fun v H1 L1 hle hR => ?_)
  obtain ⟨rfl, a11, c11, N11, rfl, rfl, h11⟩ := hR
  refine asg rfl rfl ?_
  refine nl ?_
  exact rT rfl rfl ler (fun _ _ h => h) ⟨rfl, OutB.of h11.1 (rfl)⟩
theorem k_AppendNullableArrayLen {H : Fz} {L : Own} {a : Option Addr} {cap : Nat} {X : List UInt8} {N : Chunk} {n : Nat} {b : Bool} (hx32 : n ≤ 1000000000) (hr : Row 5 1 a X.length cap (bytesOf X) N) (hb : X.length + ((counted false b n 4)).length ≤ 4294967295) :
  Fn Tryz.prog 42 [.slice a X.length cap, .int .i64 (n : Int), .bool b] H (N :: L) (OutK L (X ++ (counted false b n 4)) H) := by
 refine Fn.mk Tryz.call42 Tryz.func42 rfl Tryz.ntmps42 rfl ?_
 refine sr ?_
 refine asg rfl rfl ?_
 refine nl ?_
 refine sq ?_
 refine sr ?_
 refine mv rfl rfl ?_
 refine nl ?_
 refine cbU rfl (fun h7 => ?_) (fun h7 => ?_)
 ·
  subst h7
  refine sr ?_
  refine mv rfl rfl ?_
  refine cl rfl rfl rfl (k_AppendInt32 (u := -1) hr (by have h := hb; (try simp only [counted_ff, counted_tf, counted_ft, counted_tt, uvar0, fixed_length, List.length_append, List.length_cons, List.length_nil, List.append_nil] at h); (try simp only [counted_ff, counted_tf, counted_ft, counted_tt, uvar0, fixed_length, List.length_append, List.length_cons, List.length_nil, List.append_nil]); omega)) rfl (fun v H1 L1 hle hR => ?_)
  obtain ⟨rfl, a9, c9, N9, rfl, rfl, h9⟩ := hR
  refine asg rfl rfl ?_
  refine nl ?_
  exact rT rfl rfl ler (fun _ _ h => h) ⟨rfl, OutB.of h9.1 (by simp [counted_ft, counted_tt, uvar_end])⟩
 ·
  subst h7
  refine skt ?_
  refine sr ?_
  refine mv rfl rfl ?_
  refine mv rfl rfl ?_
  refine cv Tryz.runUnderlying3 Tryz.runUnderlying21 rfl rfl rfl ?_
  refine cl rfl rfl rfl (k_AppendInt32 (u := IntKind.i32.wrap (n : Int)) hr (by have h := hb; (try simp only [counted_ff, counted_tf, counted_ft, counted_tt, uvar0, fixed_length, List.length_append, List.length_cons, List.length_nil, List.append_nil] at h); (try simp only [counted_ff, counted_tf, counted_ft, counted_tt, uvar0, fixed_length, List.length_append, List.length_cons, List.length_nil, List.append_nil]); omega)) rfl (fun v H1 L1 hle hR => ?_)
  obtain ⟨rfl, a13, c13, N13, rfl, rfl, h13⟩ := hR
  refine asg rfl rfl ?_
  refine nl ?_
  exact rT rfl rfl ler (fun _ _ h => h) ⟨rfl, OutB.of h13.1 (by rw [fixed_i32]; rfl)⟩
theorem k_AppendCompactNullableArrayLen {H : Fz} {L : Own} {a : Option Addr} {cap : Nat} {X : List UInt8} {N : Chunk} {n : Nat} {b : Bool} (hx32 : n ≤ 1000000000) (hr : Row 5 1 a X.length cap (bytesOf X) N) (hb : X.length + ((counted true b n 4)).length ≤ 4294967295) :
  Fn Tryz.prog 41 [.slice a X.length cap, .int .i64 (n : Int), .bool b] H (N :: L) (OutK L (X ++ (counted true b n 4)) H) := by
 refine Fn.mk Tryz.call41 Tryz.func41 rfl Tryz.ntmps41 rfl ?_
 refine sr ?_
 refine asg rfl rfl ?_
 refine nl ?_
 refine sq ?_
 refine sr ?_
 refine mv rfl rfl ?_
 refine nl ?_
 refine cbU rfl (fun h7 => ?_) (fun h7 => ?_)
 ·
  subst h7
  refine sr ?_
  refine mv rfl rfl ?_
  refine cl rfl rfl rfl (k_AppendUvarint (n := 0) (by omega) hr (by have h := hb; (try simp only [counted_ff, counted_tf, counted_ft, counted_tt, uvar0, fixed_length, List.length_append, List.length_cons, List.length_nil, List.append_nil] at h); (try simp only [counted_ff, counted_tf, counted_ft, counted_tt, uvar0, fixed_length, List.length_append, List.length_cons, List.length_nil, List.append_nil]); omega)) rfl (fun v H1 L1 hle hR => ?_)
  obtain ⟨rfl, a9, c9, N9, rfl, rfl, h9⟩ := hR
  refine asg rfl rfl ?_
  refine nl ?_
  exact rT rfl rfl ler (fun _ _ h => h) ⟨rfl, OutB.of h9.1 (by simp [counted_ft, counted_tt, uvar_end])⟩
 ·
  subst h7
  refine skt ?_
  refine sr ?_
  refine mv rfl rfl ?_
  refine mv rfl rfl ?_
  refine cv Tryz.runUnderlying3 Tryz.runUnderlying62 rfl (w32u (by omega) (by omega)) rfl ?_
  refine ad rfl rfl ((w32u (by omega) (by omega)).trans (by omega : _ = ((n + 1 : Nat) : Int))) rfl ?_
  refine cl rfl rfl rfl (k_AppendUvarint (n := n + 1) (by omega) hr (by have h := hb; (try simp only [counted_ff, counted_tf, counted_ft, counted_tt, uvar0, fixed_length, List.length_append, List.length_cons, List.length_nil, List.append_nil] at h); (try simp only [counted_ff, counted_tf, counted_ft, counted_tt, uvar0, fixed_length, List.length_append, List.length_cons, List.length_nil, List.append_nil]); omega)) rfl (fun v H1 L1 hle hR => ?_)
  obtain ⟨rfl, a14, c14, N14, rfl, rfl, h14⟩ := hR
  refine asg rfl rfl ?_
  refine nl ?_
  exact rT rfl rfl ler (fun _ _ h => h) ⟨rfl, OutB.of h14.1 (rfl)⟩
theorem k_AppendUuid {H : Fz} {L : Own} {a : Option Addr} {cap : Nat} {X : List UInt8} {N : Chunk} {x : List UInt8} (hr : Row 5 1 a X.length cap (bytesOf X) N) (hb : X.length + (pad16 x).length ≤ 4294967295) :
  Fn Tryz.prog 39 [.slice a X.length cap, .agg (u16 x).toArray] H (N :: L) (OutK L (X ++ pad16 x) H) := by
 have hp := pad16_len x
 refine Fn.mk Tryz.call39 Tryz.func39 rfl Tryz.ntmps39 rfl ?_
 refine sr ?_
 refine bx rfl rfl rfl (fun b_1 => ?_)
 refine asg rfl rfl ?_
 refine nl ?_
 refine sr ?_
 refine mv rfl rfl ?_
 refine sl16 Tryz.runUnderlying72 Tryz.sizeOf5 rfl rfl ?_
 refine ap (news := bytesOf (pad16 x)) Tryz.underlying22 I5 rfl rfl hr (fun _ => (.tail .head)) (src_says Tryz.underlying22 (by rw [bytesOf_length, hp]) (fun _ => by rw [← u16_eq]; exact Says.own .head) (bytesOf_one _)) (by omega) (by unfold maxLen; omega) rfl (fun a7 c7 N7 r7 z7 => ?_)
 rw [← bytesOf_append] at r7
 refine asg rfl rfl ?_
 refine nl ?_
 refine drW .head ?_
 exact rT rfl rfl ler (fun _ _ h => h) ⟨rfl, OutB.of r7 (rfl)⟩
end Go.Sx

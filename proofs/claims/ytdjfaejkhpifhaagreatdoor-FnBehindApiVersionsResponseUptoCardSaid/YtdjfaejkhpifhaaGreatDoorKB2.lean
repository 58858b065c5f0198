import Derived.Test.YtdjfaejkhpifhaaGreatDoorSxTab
import Derived.Test.YtdjfaejkhpifhaaGreatDoorT1A
import Derived.Test.YtdjfaejkhpifhaaGreatDoorOkL
import Derived.KernelRfl
set_option linter.unusedVariables false
set_option linter.unusedSimpArgs false
set_option maxRecDepth 100000
set_option maxHeartbeats 20000000
namespace Go.Sx
open Go.Proofs
theorem OutK.cast {P : Program} {f : FuncId} {args : List Value} {H : Fz} {L L0 : Own} {X Y : List UInt8} (h : Fn P f args H L0 (OutK L X H)) (e : X = Y) : Fn P f args H L0 (OutK L Y H) := e ▸ h
theorem k_AppendCompactString {H : Fz} {L : Own} {a : Option Addr} {cap : Nat} {X : List UInt8} {N : Chunk} {x : List UInt8} (hx32 : x.length ≤ 1000000000) (hr : Row 5 1 a X.length cap (bytesOf X) N) (hb : X.length + ((counted true false x.length 2 ++ x)).length ≤ 4294967295) :
  Fn Tryz.prog 47 [.slice a X.length cap, .string ⟨x.toArray⟩] H (N :: L) (OutK L (X ++ (counted true false x.length 2 ++ x)) H) := by
 refine Fn.mk Tryz.call47 Tryz.func47 rfl Tryz.ntmps47 rfl ?_
 refine sr ?_
 refine asg rfl rfl ?_
 refine nl ?_
 refine sr ?_
 refine mv rfl rfl ?_
 refine mv rfl rfl ?_
 refine lt' Tryz.runUnderlying9 rfl rfl ?_
 refine cv Tryz.runUnderlying3 Tryz.runUnderlying55 rfl ((w32u (by simp only [ByteArray.size, List.size_toArray]; omega) (by simp only [ByteArray.size, List.size_toArray]; omega)).trans (rfl : _ = ((x.length : Nat) : Int))) rfl ?_
 refine ad rfl rfl ((w32u (by omega) (by omega)).trans (by omega : _ = ((x.length + 1 : Nat) : Int))) rfl ?_
 refine cl rfl rfl rfl (k_AppendUvarint (n := x.length + 1) (by omega) hr (by have h := hb; (try simp only [counted_ff, counted_tf, counted_ft, counted_tt, uvar0, fixed_length, List.length_append, List.length_cons, List.length_nil, List.append_nil] at h); (try simp only [counted_ff, counted_tf, counted_ft, counted_tt, uvar0, fixed_length, List.length_append, List.length_cons, List.length_nil, List.append_nil]); omega)) rfl (fun v H1 L1 hle hR => ?_)
 obtain ⟨rfl, a10, c10, N10, rfl, rfl, h10⟩ := hR
 refine asg rfl rfl ?_
 refine nl ?_
 refine sr ?_
 refine mv rfl rfl ?_
 refine mv rfl rfl ?_
 refine ap (news := bytesOf x) Tryz.underlying22 I5 rfl rfl h10.1 (fun _ => .head) (src_text x Tryz.underlying9) (by have h := hb; (try simp only [counted_ff, counted_tf, counted_ft, counted_tt, uvar0, fixed_length, List.length_append, List.length_cons, List.length_nil, List.append_nil] at h); (try simp only [counted_ff, counted_tf, counted_ft, counted_tt, uvar0, fixed_length, List.length_append, List.length_cons, List.length_nil, List.append_nil]); omega) (by have h := hb; (try simp only [counted_ff, counted_tf, counted_ft, counted_tt, uvar0, fixed_length, List.length_append, List.length_cons, List.length_nil, List.append_nil] at h); (try simp only [counted_ff, counted_tf, counted_ft, counted_tt, uvar0, fixed_length, List.length_append, List.length_cons, List.length_nil, List.append_nil]); unfold maxLen; omega) rfl (fun a13 c13 N13 r13 z13 => ?_)
 rw [← bytesOf_append] at r13
 refine asg rfl rfl ?_
 refine nl ?_
 exact rT rfl rfl ler (fun _ _ h => h) ⟨rfl, OutB.of r13 (by rw [List.append_assoc]; rfl)⟩
theorem k_AppendCompactArrayLen {H : Fz} {L : Own} {a : Option Addr} {cap : Nat} {X : List UInt8} {N : Chunk} {n : Nat} (hx32 : n ≤ 1000000000) (hr : Row 5 1 a X.length cap (bytesOf X) N) (hb : X.length + ((counted true false n 4)).length ≤ 4294967295) :
  Fn Tryz.prog 45 [.slice a X.length cap, .int .i64 (n : Int)] H (N :: L) (OutK L (X ++ (counted true false n 4)) H) := by
 refine Fn.mk Tryz.call45 Tryz.func45 rfl Tryz.ntmps45 rfl ?_
 refine sr ?_
 refine asg rfl rfl ?_
 refine nl ?_
 refine sr ?_
 refine mv rfl rfl ?_
 refine mv rfl rfl ?_
 refine cv Tryz.runUnderlying3 Tryz.runUnderlying55 rfl (w32u (by omega) (by omega)) rfl ?_
 refine ad rfl rfl ((w32u (by omega) (by omega)).trans (by omega : _ = ((n + 1 : Nat) : Int))) rfl ?_
 refine cl rfl rfl rfl (k_AppendUvarint (n := n + 1) (by omega) hr (by have h := hb; (try simp only [counted_ff, counted_tf, counted_ft, counted_tt, uvar0, fixed_length, List.length_append, List.length_cons, List.length_nil, List.append_nil] at h); (try simp only [counted_ff, counted_tf, counted_ft, counted_tt, uvar0, fixed_length, List.length_append, List.length_cons, List.length_nil, List.append_nil]); omega)) rfl (fun v H1 L1 hle hR => ?_)
 obtain ⟨rfl, a9, c9, N9, rfl, rfl, h9⟩ := hR
 refine asg rfl rfl ?_
 refine nl ?_
 exact rT rfl rfl ler (fun _ _ h => h) ⟨rfl, OutB.of h9.1 (rfl)⟩
end Go.Sx

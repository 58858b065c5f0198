import Derived.Test.YtbmkefmfhmbenaaSxTab
import Derived.Test.YtbmkefmfhmbenaaT1
import Derived.Test.YtbmkefmfhmbenaaOkL
import Derived.KernelRfl
set_option linter.unusedVariables false
set_option linter.unusedSimpArgs false
set_option maxRecDepth 100000
set_option maxHeartbeats 20000000
namespace Go.Sx
open Go.Proofs
theorem OutK.cast {P : Program} {f : FuncId} {args : List Value} {H : Fz} {L L0 : Own} {X Y : List UInt8} (h : Fn P f args H L0 (OutK L X H)) (e : X = Y) : Fn P f args H L0 (OutK L Y H) := e ▸ h
theorem k_AppendNullableString {H : Fz} {L : Own} {a : Option Addr} {cap : Nat} {X : List UInt8} {N : Chunk} {T : Tr} {p : Option Addr} (hT : TextAt H T p) (hl : T.s.length ≤ 32767) (hr : Row 5 1 a X.length cap (bytesOf X) N) (hb : X.length + ((counted false T.nul (sT T).length 2 ++ sT T)).length ≤ 140737488355328) :
    Fn Try.prog 80 [.slice a X.length cap, .pointer p] H (N :: L) (OutK L (X ++ (counted false T.nul (sT T).length 2 ++ sT T)) H) := by
  refine Fn.mk Try.call80 Try.func80 rfl Try.ntmps80 rfl ?_
  refine sr ?_
  refine asg rfl rfl ?_
  refine nl ?_
  refine sq ?_
  refine sr ?_
  refine mv rfl rfl ?_
  refine epn Try.underlying69 rfl rfl ?_
  refine nl ?_
  refine cbU rfl (fun h6 => ?_) (fun h6 => ?_)
  · skip
    obtain rfl : p = none := by simpa using h6
    have hn : T.nul = true := hT.nul.symm
    simp only [hn, sT, if_true] at hb ⊢
    refine sr ?_
    refine mv rfl rfl ?_
    refine cl rfl rfl rfl (k_AppendInt16 (u := -1) hr (by have h := hb; (try simp only [counted_ff, counted_tf, counted_ft, counted_tt, uvar0, fixed_length, List.length_append, List.length_cons, List.length_nil, List.append_nil] at h); (try simp only [counted_ff, counted_tf, counted_ft, counted_tt, uvar0, fixed_length, List.length_append, List.length_cons, List.length_nil, List.append_nil]); omega)) rfl (fun v H1 L1 hle hR => ?_)
    obtain ⟨rfl, a8, c8, N8, rfl, rfl, h8⟩ := hR
    refine asg rfl rfl ?_
    refine nl ?_
    exact rT rfl rfl (Fz.le.refl _) (fun _ _ h => h) ⟨rfl, OutB.of h8.1 (by simp [counted_ft, counted_tt, uvar_end])⟩
  · skip
    obtain ⟨ad, rfl⟩ : ∃ ad, p = some ad := by cases p with | none => simp at h6 | some ad => exact ⟨ad, rfl⟩
    have hn : T.nul = false := hT.nul.symm
    obtain ⟨pb, rfl, hpb⟩ := hT.val _ rfl
    simp only [hn, sT, Bool.false_eq_true, if_false] at hb ⊢
    refine skt ?_
    refine sr ?_
    refine mv rfl rfl ?_
    refine mv rfl rfl ?_
    refine nc rfl rfl ?_
    refine ld (Says.fz hpb) Try.isAgg9 rfl (Nat.add_zero _).symm rfl rfl ?_
    refine cl rfl rfl rfl (k_AppendString (x := T.s) hr (by have h := hb; (try simp only [counted_ff, counted_tf, counted_ft, counted_tt, uvar0, fixed_length, List.length_append, List.length_cons, List.length_nil, List.append_nil] at h); (try simp only [counted_ff, counted_tf, counted_ft, counted_tt, uvar0, fixed_length, List.length_append, List.length_cons, List.length_nil, List.append_nil]); omega)) rfl (fun v H1 L1 hle hR => ?_)
    obtain ⟨rfl, a13, c13, N13, rfl, rfl, h13⟩ := hR
    refine asg rfl rfl ?_
    refine nl ?_
    exact rT rfl rfl (Fz.le.refl _) (fun _ _ h => h) ⟨rfl, OutB.of h13.1 (rfl)⟩
theorem k_AppendNullableBytes {H : Fz} {L : Own} {a : Option Addr} {cap : Nat} {X : List UInt8} {N : Chunk} {T : Tr} {xa : Option Addr} {xc : Nat} (hT : OctAt H T xa xc) (hl : T.s.length ≤ 32767) (hr : Row 5 1 a X.length cap (bytesOf X) N) (hb : X.length + ((counted false T.nul (sT T).length 4 ++ sT T)).length ≤ 140737488355328) :
    Fn Try.prog 79 [.slice a X.length cap, .slice xa (sT T).length xc] H (N :: L) (OutK L (X ++ (counted false T.nul (sT T).length 4 ++ sT T)) H) := by
  refine Fn.mk Try.call79 Try.func79 rfl Try.ntmps79 rfl ?_
  refine sr ?_
  refine asg rfl rfl ?_
  refine nl ?_
  refine sq ?_
  refine sr ?_
  refine mv rfl rfl ?_
  refine esn Try.underlying22 rfl rfl ?_
  refine nl ?_
  refine cbU rfl (fun h6 => ?_) (fun h6 => ?_)
  · skip
    have hn : T.nul = true := hT.nul.symm.trans h6
    simp only [hn, sT, if_true] at hb ⊢
    refine sr ?_
    refine mv rfl rfl ?_
    refine cl rfl rfl rfl (k_AppendInt32 (u := -1) hr (by have h := hb; (try simp only [counted_ff, counted_tf, counted_ft, counted_tt, uvar0, fixed_length, List.length_append, List.length_cons, List.length_nil, List.append_nil] at h); (try simp only [counted_ff, counted_tf, counted_ft, counted_tt, uvar0, fixed_length, List.length_append, List.length_cons, List.length_nil, List.append_nil]); omega)) rfl (fun v H1 L1 hle hR => ?_)
    obtain ⟨rfl, a8, c8, N8, rfl, rfl, h8⟩ := hR
    refine asg rfl rfl ?_
    refine nl ?_
    exact rT rfl rfl (Fz.le.refl _) (fun _ _ h => h) ⟨rfl, OutB.of h8.1 (by simp [counted_ft, counted_tt, uvar_end])⟩
  · skip
    have hn : T.nul = false := hT.nul.symm.trans h6
    have hsT : sT T = T.s := by simp [sT, hn]
    have hv := hT.val
    rw [hsT] at hv hb ⊢
    simp only [hn] at hb ⊢
    refine skt ?_
    refine sr ?_
    refine mv rfl rfl ?_
    refine mv rfl rfl ?_
    refine cl rfl rfl rfl (k_AppendBytes (x := T.s) hv hr (by have h := hb; (try simp only [counted_ff, counted_tf, counted_ft, counted_tt, uvar0, fixed_length, List.length_append, List.length_cons, List.length_nil, List.append_nil] at h); (try simp only [counted_ff, counted_tf, counted_ft, counted_tt, uvar0, fixed_length, List.length_append, List.length_cons, List.length_nil, List.append_nil]); omega)) rfl (fun v H1 L1 hle hR => ?_)
    obtain ⟨rfl, a11, c11, N11, rfl, rfl, h11⟩ := hR
    refine asg rfl rfl ?_
    refine nl ?_
    exact rT rfl rfl (Fz.le.refl _) (fun _ _ h => h) ⟨rfl, OutB.of h11.1 (rfl)⟩
end Go.Sx

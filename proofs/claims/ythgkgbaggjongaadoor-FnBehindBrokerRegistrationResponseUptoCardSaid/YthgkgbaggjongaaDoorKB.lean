import Derived.Test.YthgkgbaggjongaaDoorSxTab
import Derived.Test.YthgkgbaggjongaaDoorS3
import Derived.Test.YthgkgbaggjongaaDoorLibD
import Derived.KernelRfl
set_option linter.unusedVariables false
set_option linter.unusedSimpArgs false
set_option maxRecDepth 100000
set_option maxHeartbeats 20000000
namespace Go.Sx
open Go.Proofs
def OutK (L : Own) (X : List UInt8) (H : Fz) : Value → Fz → Own → Prop := fun v H' L' => H = H' ∧ OutB 5 L X v L'
theorem be_2 (u : Int) : fixed u 2 = [byte (u / 256), byte u] := by simp [fixed]
theorem k_AppendUint16 {H : Fz} {L : Own} {a : Option Addr} {cap : Nat} {X : List UInt8} {N : Chunk} {u : Int} (hr : Row 5 1 a X.length cap (bytesOf X) N) (hb : X.length + (fixed u 2).length ≤ 140737488355328) :
    Fn Tryd.prog 47 [.slice a X.length cap, .int .u16 u] H (N :: L) (OutK L (X ++ fixed u 2) H) := by
  refine Fn.mk Tryd.call47 Tryd.func47 rfl Tryd.ntmps47 rfl ?_
  refine sr ?_
  refine asg rfl rfl ?_
  refine nl ?_
  refine sr ?_
  refine mv rfl rfl ?_
  refine mv rfl rfl ?_
  refine sh rfl rfl (by decide) (shr_eq (m := 256) rfl (by decide)) rfl ?_
  refine cv Tryd.runUnderlying89 Tryd.runUnderlying5 rfl (wrap8 _) rfl ?_
  refine mv rfl rfl ?_
  refine cv Tryd.runUnderlying89 Tryd.runUnderlying5 rfl (wrap8 _) rfl ?_
  refine bs' L22 rfl rfl rfl rfl (fun b_1 => ?_)
  refine ap (news := bytesOf ([byte (u / 256), byte u])) Tryd.underlying22 I5 rfl rfl hr (fun _ => (.tail .head)) (src_says Tryd.underlying22 rfl (fun _ => Says.own .head) (bytesOf_one _)) (by have h := hb; simp only [fixed_length, List.length_cons, List.length_nil] at h; omega) (by have h := hb; simp only [fixed_length, List.length_cons, List.length_nil] at h; unfold maxLen; omega) rfl (fun a12 c12 N12 r12 z12 => ?_)
  rw [← bytesOf_append] at r12
  refine asg rfl rfl ?_
  refine nl ?_
  refine drW .head ?_
  exact rT rfl rfl (Fz.le.refl _) (fun _ _ h => h) ⟨rfl, OutB.of r12 (by rw [be_2])⟩
theorem be_4 (u : Int) : fixed u 4 = [byte (u / 16777216), byte (u / 65536), byte (u / 256), byte u] := by simp [fixed]
theorem k_AppendUint32 {H : Fz} {L : Own} {a : Option Addr} {cap : Nat} {X : List UInt8} {N : Chunk} {u : Int} (hr : Row 5 1 a X.length cap (bytesOf X) N) (hb : X.length + (fixed u 4).length ≤ 140737488355328) :
    Fn Tryd.prog 46 [.slice a X.length cap, .int .u32 u] H (N :: L) (OutK L (X ++ fixed u 4) H) := by
  refine Fn.mk Tryd.call46 Tryd.func46 rfl Tryd.ntmps46 rfl ?_
  refine sr ?_
  refine asg rfl rfl ?_
  refine nl ?_
  refine sr ?_
  refine mv rfl rfl ?_
  refine mv rfl rfl ?_
  refine sh rfl rfl (by decide) (shr_eq (m := 16777216) rfl (by decide)) rfl ?_
  refine cv Tryd.runUnderlying52 Tryd.runUnderlying5 rfl (wrap8 _) rfl ?_
  refine mv rfl rfl ?_
  refine sh rfl rfl (by decide) (shr_eq (m := 65536) rfl (by decide)) rfl ?_
  refine cv Tryd.runUnderlying52 Tryd.runUnderlying5 rfl (wrap8 _) rfl ?_
  refine mv rfl rfl ?_
  refine sh rfl rfl (by decide) (shr_eq (m := 256) rfl (by decide)) rfl ?_
  refine cv Tryd.runUnderlying52 Tryd.runUnderlying5 rfl (wrap8 _) rfl ?_
  refine mv rfl rfl ?_
  refine cv Tryd.runUnderlying52 Tryd.runUnderlying5 rfl (wrap8 _) rfl ?_
  refine bs' L22 rfl rfl rfl rfl (fun b_1 => ?_)
  refine ap (news := bytesOf ([byte (u / 16777216), byte (u / 65536), byte (u / 256), byte u])) Tryd.underlying22 I5 rfl rfl hr (fun _ => (.tail .head)) (src_says Tryd.underlying22 rfl (fun _ => Says.own .head) (bytesOf_one _)) (by have h := hb; simp only [fixed_length, List.length_cons, List.length_nil] at h; omega) (by have h := hb; simp only [fixed_length, List.length_cons, List.length_nil] at h; unfold maxLen; omega) rfl (fun a18 c18 N18 r18 z18 => ?_)
  rw [← bytesOf_append] at r18
  refine asg rfl rfl ?_
  refine nl ?_
  refine drW .head ?_
  exact rT rfl rfl (Fz.le.refl _) (fun _ _ h => h) ⟨rfl, OutB.of r18 (by rw [be_4])⟩
theorem be_8 (u : Int) : fixed u 8 = [byte (u / 72057594037927936), byte (u / 281474976710656), byte (u / 1099511627776), byte (u / 4294967296), byte (u / 16777216), byte (u / 65536), byte (u / 256), byte u] := by simp [fixed]
theorem k_appendUint64 {H : Fz} {L : Own} {a : Option Addr} {cap : Nat} {X : List UInt8} {N : Chunk} {u : Int} (hr : Row 5 1 a X.length cap (bytesOf X) N) (hb : X.length + (fixed u 8).length ≤ 140737488355328) :
    Fn Tryd.prog 48 [.slice a X.length cap, .int .u64 u] H (N :: L) (OutK L (X ++ fixed u 8) H) := by
  refine Fn.mk Tryd.call48 Tryd.func48 rfl Tryd.ntmps48 rfl ?_
  refine sr ?_
  refine asg rfl rfl ?_
  refine nl ?_
  refine sr ?_
  refine mv rfl rfl ?_
  refine mv rfl rfl ?_
  refine sh rfl rfl (by decide) (shr_eq (m := 72057594037927936) rfl (by decide)) rfl ?_
  refine cv Tryd.runUnderlying67 Tryd.runUnderlying5 rfl (wrap8 _) rfl ?_
  refine mv rfl rfl ?_
  refine sh rfl rfl (by decide) (shr_eq (m := 281474976710656) rfl (by decide)) rfl ?_
  refine cv Tryd.runUnderlying67 Tryd.runUnderlying5 rfl (wrap8 _) rfl ?_
  refine mv rfl rfl ?_
  refine sh rfl rfl (by decide) (shr_eq (m := 1099511627776) rfl (by decide)) rfl ?_
  refine cv Tryd.runUnderlying67 Tryd.runUnderlying5 rfl (wrap8 _) rfl ?_
  refine mv rfl rfl ?_
  refine sh rfl rfl (by decide) (shr_eq (m := 4294967296) rfl (by decide)) rfl ?_
  refine cv Tryd.runUnderlying67 Tryd.runUnderlying5 rfl (wrap8 _) rfl ?_
  refine mv rfl rfl ?_
  refine sh rfl rfl (by decide) (shr_eq (m := 16777216) rfl (by decide)) rfl ?_
  refine cv Tryd.runUnderlying67 Tryd.runUnderlying5 rfl (wrap8 _) rfl ?_
  refine mv rfl rfl ?_
  refine sh rfl rfl (by decide) (shr_eq (m := 65536) rfl (by decide)) rfl ?_
  refine cv Tryd.runUnderlying67 Tryd.runUnderlying5 rfl (wrap8 _) rfl ?_
  refine mv rfl rfl ?_
  refine sh rfl rfl (by decide) (shr_eq (m := 256) rfl (by decide)) rfl ?_
  refine cv Tryd.runUnderlying67 Tryd.runUnderlying5 rfl (wrap8 _) rfl ?_
  refine mv rfl rfl ?_
  refine cv Tryd.runUnderlying67 Tryd.runUnderlying5 rfl (wrap8 _) rfl ?_
  refine bs' L22 rfl rfl rfl rfl (fun b_1 => ?_)
  refine ap (news := bytesOf ([byte (u / 72057594037927936), byte (u / 281474976710656), byte (u / 1099511627776), byte (u / 4294967296), byte (u / 16777216), byte (u / 65536), byte (u / 256), byte u])) Tryd.underlying22 I5 rfl rfl hr (fun _ => (.tail .head)) (src_says Tryd.underlying22 rfl (fun _ => Says.own .head) (bytesOf_one _)) (by have h := hb; simp only [fixed_length, List.length_cons, List.length_nil] at h; omega) (by have h := hb; simp only [fixed_length, List.length_cons, List.length_nil] at h; unfold maxLen; omega) rfl (fun a30 c30 N30 r30 z30 => ?_)
  rw [← bytesOf_append] at r30
  refine asg rfl rfl ?_
  refine nl ?_
  refine drW .head ?_
  exact rT rfl rfl (Fz.le.refl _) (fun _ _ h => h) ⟨rfl, OutB.of r30 (by rw [be_8])⟩
theorem k_AppendInt16 {H : Fz} {L : Own} {a : Option Addr} {cap : Nat} {X : List UInt8} {N : Chunk} {u : Int} (hr : Row 5 1 a X.length cap (bytesOf X) N) (hb : X.length + (fixed u 2).length ≤ 140737488355328) :
    Fn Tryd.prog 30 [.slice a X.length cap, .int .i16 u] H (N :: L) (OutK L (X ++ fixed u 2) H) := by
  refine Fn.mk Tryd.call30 Tryd.func30 rfl Tryd.ntmps30 rfl ?_
  refine sr ?_
  refine asg rfl rfl ?_
  refine nl ?_
  refine sr ?_
  refine mv rfl rfl ?_
  refine mv rfl rfl ?_
  refine cv Tryd.runUnderlying40 Tryd.runUnderlying89 rfl rfl rfl ?_
  refine cl rfl rfl rfl (k_AppendUint16 hr (by rw [fixed_length] at hb ⊢; exact hb)) rfl (fun v H1 L1 hle hR => ?_)
  obtain ⟨rfl, a8, c8, N8, rfl, rfl, h8⟩ := hR
  refine asg rfl rfl ?_
  refine nl ?_
  exact rT rfl rfl (Fz.le.refl _) (fun _ _ h => h) ⟨rfl, OutB.of h8.1 (by rw [fixed_u16])⟩
theorem k_AppendInt32 {H : Fz} {L : Own} {a : Option Addr} {cap : Nat} {X : List UInt8} {N : Chunk} {u : Int} (hr : Row 5 1 a X.length cap (bytesOf X) N) (hb : X.length + (fixed u 4).length ≤ 140737488355328) :
    Fn Tryd.prog 29 [.slice a X.length cap, .int .i32 u] H (N :: L) (OutK L (X ++ fixed u 4) H) := by
  refine Fn.mk Tryd.call29 Tryd.func29 rfl Tryd.ntmps29 rfl ?_
  refine sr ?_
  refine asg rfl rfl ?_
  refine nl ?_
  refine sr ?_
  refine mv rfl rfl ?_
  refine mv rfl rfl ?_
  refine cv Tryd.runUnderlying21 Tryd.runUnderlying52 rfl rfl rfl ?_
  refine cl rfl rfl rfl (k_AppendUint32 hr (by rw [fixed_length] at hb ⊢; exact hb)) rfl (fun v H1 L1 hle hR => ?_)
  obtain ⟨rfl, a8, c8, N8, rfl, rfl, h8⟩ := hR
  refine asg rfl rfl ?_
  refine nl ?_
  exact rT rfl rfl (Fz.le.refl _) (fun _ _ h => h) ⟨rfl, OutB.of h8.1 (by rw [fixed_u32])⟩
theorem k_AppendInt64 {H : Fz} {L : Own} {a : Option Addr} {cap : Nat} {X : List UInt8} {N : Chunk} {u : Int} (hr : Row 5 1 a X.length cap (bytesOf X) N) (hb : X.length + (fixed u 8).length ≤ 140737488355328) :
    Fn Tryd.prog 31 [.slice a X.length cap, .int .i64 u] H (N :: L) (OutK L (X ++ fixed u 8) H) := by
  refine Fn.mk Tryd.call31 Tryd.func31 rfl Tryd.ntmps31 rfl ?_
  refine sr ?_
  refine asg rfl rfl ?_
  refine nl ?_
  refine sr ?_
  refine mv rfl rfl ?_
  refine mv rfl rfl ?_
  refine cv Tryd.runUnderlying2 Tryd.runUnderlying67 rfl rfl rfl ?_
  refine cl rfl rfl rfl (k_appendUint64 hr (by rw [fixed_length] at hb ⊢; exact hb)) rfl (fun v H1 L1 hle hR => ?_)
  obtain ⟨rfl, a8, c8, N8, rfl, rfl, h8⟩ := hR
  refine asg rfl rfl ?_
  refine nl ?_
  exact rT rfl rfl (Fz.le.refl _) (fun _ _ h => h) ⟨rfl, OutB.of h8.1 (by rw [fixed_u64])⟩
end Go.Sx

import Derived.Test.YtdjfaejkhpifhaaGreatDoorSxTab
import Derived.Test.YtdjfaejkhpifhaaGreatDoorS3
import Derived.Test.YtdjfaejkhpifhaaGreatDoorLibD
import Derived.KernelRfl
set_option linter.unusedVariables false
set_option linter.unusedSimpArgs false
set_option maxRecDepth 100000
set_option maxHeartbeats 20000000
namespace Go.Sx
open Go.Proofs
def OutK (L : Own) (X : List UInt8) (H : Fz) : Value → Fz → Own → Prop := fun v H' L' => H = H' ∧ OutB 5 L X v L'
theorem be_2 (u : Int) : fixed u 2 = [byte (u / 256), byte u] := by simp [fixed]
theorem k_AppendUint16 {H : Fz} {L : Own} {a : Option Addr} {cap : Nat} {X : List UInt8} {N : Chunk} {u : Int} (hr : Row 5 1 a X.length cap (bytesOf X) N) (hb : X.length + (fixed u 2).length ≤ 4294967295) :
  Fn Tryz.prog 54 [.slice a X.length cap, .int .u16 u] H (N :: L) (OutK L (X ++ fixed u 2) H) := by
 refine Fn.mk Tryz.call54 Tryz.func54 rfl Tryz.ntmps54 rfl ?_
 refine sr ?_
 refine asg rfl rfl ?_
 refine nl ?_
 refine sr ?_
 refine mv rfl rfl ?_
 refine mv rfl rfl ?_
 refine sh rfl rfl (by decide) (shr_eq (m := 256) rfl (by decide)) rfl ?_
 refine cv Tryz.runUnderlying90 Tryz.runUnderlying5 rfl (wrap8 _) rfl ?_
 refine mv rfl rfl ?_
 refine cv Tryz.runUnderlying90 Tryz.runUnderlying5 rfl (wrap8 _) rfl ?_
 refine bs' L22 rfl rfl rfl rfl (fun b_1 => ?_)
 refine ap (news := bytesOf ([byte (u / 256), byte u])) Tryz.underlying22 I5 rfl rfl hr (fun _ => (.tail .head)) (src_says Tryz.underlying22 rfl (fun _ => Says.own .head) (bytesOf_one _)) (by have h := hb; simp only [fixed_length, List.length_cons, List.length_nil] at h; omega) (by have h := hb; simp only [fixed_length, List.length_cons, List.length_nil] at h; unfold maxLen; omega) rfl (fun a12 c12 N12 r12 z12 => ?_)
 rw [← bytesOf_append] at r12
 refine asg rfl rfl ?_
 refine nl ?_
 refine drW .head ?_
 exact rT rfl rfl ler (fun _ _ h => h) ⟨rfl, OutB.of r12 (by rw [be_2])⟩
theorem be_4 (u : Int) : fixed u 4 = [byte (u / 16777216), byte (u / 65536), byte (u / 256), byte u] := by simp [fixed]
theorem k_AppendUint32 {H : Fz} {L : Own} {a : Option Addr} {cap : Nat} {X : List UInt8} {N : Chunk} {u : Int} (hr : Row 5 1 a X.length cap (bytesOf X) N) (hb : X.length + (fixed u 4).length ≤ 4294967295) :
  Fn Tryz.prog 83 [.slice a X.length cap, .int .u32 u] H (N :: L) (OutK L (X ++ fixed u 4) H) := by
 refine Fn.mk Tryz.call83 Tryz.func83 rfl Tryz.ntmps83 rfl ?_
 refine sr ?_
 refine asg rfl rfl ?_
 refine nl ?_
 refine sr ?_
 refine mv rfl rfl ?_
 refine mv rfl rfl ?_
 refine sh rfl rfl (by decide) (shr_eq (m := 16777216) rfl (by decide)) rfl ?_
 refine cv Tryz.runUnderlying55 Tryz.runUnderlying5 rfl (wrap8 _) rfl ?_
 refine mv rfl rfl ?_
 refine sh rfl rfl (by decide) (shr_eq (m := 65536) rfl (by decide)) rfl ?_
 refine cv Tryz.runUnderlying55 Tryz.runUnderlying5 rfl (wrap8 _) rfl ?_
 refine mv rfl rfl ?_
 refine sh rfl rfl (by decide) (shr_eq (m := 256) rfl (by decide)) rfl ?_
 refine cv Tryz.runUnderlying55 Tryz.runUnderlying5 rfl (wrap8 _) rfl ?_
 refine mv rfl rfl ?_
 refine cv Tryz.runUnderlying55 Tryz.runUnderlying5 rfl (wrap8 _) rfl ?_
 refine bs' L22 rfl rfl rfl rfl (fun b_1 => ?_)
 refine ap (news := bytesOf ([byte (u / 16777216), byte (u / 65536), byte (u / 256), byte u])) Tryz.underlying22 I5 rfl rfl hr (fun _ => (.tail .head)) (src_says Tryz.underlying22 rfl (fun _ => Says.own .head) (bytesOf_one _)) (by have h := hb; simp only [fixed_length, List.length_cons, List.length_nil] at h; omega) (by have h := hb; simp only [fixed_length, List.length_cons, List.length_nil] at h; unfold maxLen; omega) rfl (fun a18 c18 N18 r18 z18 => ?_)
 rw [← bytesOf_append] at r18
 refine asg rfl rfl ?_
 refine nl ?_
 refine drW .head ?_
 exact rT rfl rfl ler (fun _ _ h => h) ⟨rfl, OutB.of r18 (by rw [be_4])⟩
theorem be_8 (u : Int) : fixed u 8 = [byte (u / 72057594037927936), byte (u / 281474976710656), byte (u / 1099511627776), byte (u / 4294967296), byte (u / 16777216), byte (u / 65536), byte (u / 256), byte u] := by simp [fixed]
theorem k_appendUint64 {H : Fz} {L : Own} {a : Option Addr} {cap : Nat} {X : List UInt8} {N : Chunk} {u : Int} (hr : Row 5 1 a X.length cap (bytesOf X) N) (hb : X.length + (fixed u 8).length ≤ 4294967295) :
  Fn Tryz.prog 91 [.slice a X.length cap, .int .u64 u] H (N :: L) (OutK L (X ++ fixed u 8) H) := by
 refine Fn.mk Tryz.call91 Tryz.func91 rfl Tryz.ntmps91 rfl ?_
 refine sr ?_
 refine asg rfl rfl ?_
 refine nl ?_
 refine sr ?_
 refine mv rfl rfl ?_
 refine mv rfl rfl ?_
 refine sh rfl rfl (by decide) (shr_eq (m := 72057594037927936) rfl (by decide)) rfl ?_
 refine cv Tryz.runUnderlying72 Tryz.runUnderlying5 rfl (wrap8 _) rfl ?_
 refine mv rfl rfl ?_
 refine sh rfl rfl (by decide) (shr_eq (m := 281474976710656) rfl (by decide)) rfl ?_
 refine cv Tryz.runUnderlying72 Tryz.runUnderlying5 rfl (wrap8 _) rfl ?_
 refine mv rfl rfl ?_
 refine sh rfl rfl (by decide) (shr_eq (m := 1099511627776) rfl (by decide)) rfl ?_
 refine cv Tryz.runUnderlying72 Tryz.runUnderlying5 rfl (wrap8 _) rfl ?_
 refine mv rfl rfl ?_
 refine sh rfl rfl (by decide) (shr_eq (m := 4294967296) rfl (by decide)) rfl ?_
 refine cv Tryz.runUnderlying72 Tryz.runUnderlying5 rfl (wrap8 _) rfl ?_
 refine mv rfl rfl ?_
 refine sh rfl rfl (by decide) (shr_eq (m := 16777216) rfl (by decide)) rfl ?_
 refine cv Tryz.runUnderlying72 Tryz.runUnderlying5 rfl (wrap8 _) rfl ?_
 refine mv rfl rfl ?_
 refine sh rfl rfl (by decide) (shr_eq (m := 65536) rfl (by decide)) rfl ?_
 refine cv Tryz.runUnderlying72 Tryz.runUnderlying5 rfl (wrap8 _) rfl ?_
 refine mv rfl rfl ?_
 refine sh rfl rfl (by decide) (shr_eq (m := 256) rfl (by decide)) rfl ?_
 refine cv Tryz.runUnderlying72 Tryz.runUnderlying5 rfl (wrap8 _) rfl ?_
 refine mv rfl rfl ?_
 refine cv Tryz.runUnderlying72 Tryz.runUnderlying5 rfl (wrap8 _) rfl ?_
 refine bs' L22 rfl rfl rfl rfl (fun b_1 => ?_)
 refine ap (news := bytesOf ([byte (u / 72057594037927936), byte (u / 281474976710656), byte (u / 1099511627776), byte (u / 4294967296), byte (u / 16777216), byte (u / 65536), byte (u / 256), byte u])) Tryz.underlying22 I5 rfl rfl hr (fun _ => (.tail .head)) (src_says Tryz.underlying22 rfl (fun _ => Says.own .head) (bytesOf_one _)) (by have h := hb; simp only [fixed_length, List.length_cons, List.length_nil] at h; omega) (by have h := hb; simp only [fixed_length, List.length_cons, List.length_nil] at h; unfold maxLen; omega) rfl (fun a30 c30 N30 r30 z30 => ?_)
 rw [← bytesOf_append] at r30
 refine asg rfl rfl ?_
 refine nl ?_
 refine drW .head ?_
 exact rT rfl rfl ler (fun _ _ h => h) ⟨rfl, OutB.of r30 (by rw [be_8])⟩
theorem k_AppendInt16 {H : Fz} {L : Own} {a : Option Addr} {cap : Nat} {X : List UInt8} {N : Chunk} {u : Int} (hr : Row 5 1 a X.length cap (bytesOf X) N) (hb : X.length + (fixed u 2).length ≤ 4294967295) :
  Fn Tryz.prog 44 [.slice a X.length cap, .int .i16 u] H (N :: L) (OutK L (X ++ fixed u 2) H) := by
 refine Fn.mk Tryz.call44 Tryz.func44 rfl Tryz.ntmps44 rfl ?_
 refine sr ?_
 refine asg rfl rfl ?_
 refine nl ?_
 refine sr ?_
 refine mv rfl rfl ?_
 refine mv rfl rfl ?_
 refine cv Tryz.runUnderlying40 Tryz.runUnderlying90 rfl rfl rfl ?_
 refine cl rfl rfl rfl (k_AppendUint16 hr (by rw [fixed_length] at hb ⊢; exact hb)) rfl (fun v H1 L1 hle hR => ?_)
 obtain ⟨rfl, a8, c8, N8, rfl, rfl, h8⟩ := hR
 refine asg rfl rfl ?_
 refine nl ?_
 exact rT rfl rfl ler (fun _ _ h => h) ⟨rfl, OutB.of h8.1 (by rw [fixed_u16])⟩
theorem k_AppendInt32 {H : Fz} {L : Own} {a : Option Addr} {cap : Nat} {X : List UInt8} {N : Chunk} {u : Int} (hr : Row 5 1 a X.length cap (bytesOf X) N) (hb : X.length + (fixed u 4).length ≤ 4294967295) :
  Fn Tryz.prog 49 [.slice a X.length cap, .int .i32 u] H (N :: L) (OutK L (X ++ fixed u 4) H) := by
 refine Fn.mk Tryz.call49 Tryz.func49 rfl Tryz.ntmps49 rfl ?_
 refine sr ?_
 refine asg rfl rfl ?_
 refine nl ?_
 refine sr ?_
 refine mv rfl rfl ?_
 refine mv rfl rfl ?_
 refine cv Tryz.runUnderlying21 Tryz.runUnderlying55 rfl rfl rfl ?_
 refine cl rfl rfl rfl (k_AppendUint32 hr (by rw [fixed_length] at hb ⊢; exact hb)) rfl (fun v H1 L1 hle hR => ?_)
 obtain ⟨rfl, a8, c8, N8, rfl, rfl, h8⟩ := hR
 refine asg rfl rfl ?_
 refine nl ?_
 exact rT rfl rfl ler (fun _ _ h => h) ⟨rfl, OutB.of h8.1 (by rw [fixed_u32])⟩
theorem k_AppendInt64 {H : Fz} {L : Own} {a : Option Addr} {cap : Nat} {X : List UInt8} {N : Chunk} {u : Int} (hr : Row 5 1 a X.length cap (bytesOf X) N) (hb : X.length + (fixed u 8).length ≤ 4294967295) :
  Fn Tryz.prog 57 [.slice a X.length cap, .int .i64 u] H (N :: L) (OutK L (X ++ fixed u 8) H) := by
 refine Fn.mk Tryz.call57 Tryz.func57 rfl Tryz.ntmps57 rfl ?_
 refine sr ?_
 refine asg rfl rfl ?_
 refine nl ?_
 refine sr ?_
 refine mv rfl rfl ?_
 refine mv rfl rfl ?_
 refine cv Tryz.runUnderlying2 Tryz.runUnderlying72 rfl rfl rfl ?_
 refine cl rfl rfl rfl (k_appendUint64 hr (by rw [fixed_length] at hb ⊢; exact hb)) rfl (fun v H1 L1 hle hR => ?_)
 obtain ⟨rfl, a8, c8, N8, rfl, rfl, h8⟩ := hR
 refine asg rfl rfl ?_
 refine nl ?_
 exact rT rfl rfl ler (fun _ _ h => h) ⟨rfl, OutB.of h8.1 (by rw [fixed_u64])⟩
theorem k_AppendBool {H : Fz} {L : Own} {a : Option Addr} {cap : Nat} {X : List UInt8} {N : Chunk} {b : Bool} (hr : Row 5 1 a X.length cap (bytesOf X) N) (hb : X.length + ([if b then 1 else 0]).length ≤ 4294967295) :
  Fn Tryz.prog 50 [.slice a X.length cap, .bool b] H (N :: L) (OutK L (X ++ [if b then 1 else 0]) H) := by
 refine Fn.mk Tryz.call50 Tryz.func50 rfl Tryz.ntmps50 rfl ?_
 refine sr ?_
 refine asg rfl rfl ?_
 refine nl ?_
 refine sq ?_
 refine sr ?_
 refine mv rfl rfl ?_
 refine nl ?_
 refine cbU rfl (fun h5 => ?_) (fun h5 => ?_)
 ·
  refine sr ?_
  refine mv rfl rfl ?_
  refine bs' L22 rfl rfl rfl rfl (fun b_1 => ?_)
  refine ap (news := bytesOf ([1])) Tryz.underlying22 I5 rfl rfl hr (fun _ => (.tail .head)) (src_says Tryz.underlying22 rfl (fun _ => Says.own .head) (bytesOf_one _)) (by have h := hb; simp only [fixed_length, List.length_cons, List.length_nil] at h; omega) (by have h := hb; simp only [fixed_length, List.length_cons, List.length_nil] at h; unfold maxLen; omega) rfl (fun a8 c8 N8 r8 z8 => ?_)
  rw [← bytesOf_append] at r8
  refine asg rfl rfl ?_
  refine nl ?_
  refine drW .head ?_
  exact rT rfl rfl ler (fun _ _ h => h) ⟨rfl, OutB.of r8 (by rw [h5]; rfl)⟩
 ·
  refine skt ?_
  refine sr ?_
  refine mv rfl rfl ?_
  refine bs' L22 rfl rfl rfl rfl (fun b_2 => ?_)
  refine ap (news := bytesOf ([0])) Tryz.underlying22 I5 rfl rfl hr (fun _ => (.tail .head)) (src_says Tryz.underlying22 rfl (fun _ => Says.own .head) (bytesOf_one _)) (by have h := hb; simp only [fixed_length, List.length_cons, List.length_nil] at h; omega) (by have h := hb; simp only [fixed_length, List.length_cons, List.length_nil] at h; unfold maxLen; omega) rfl (fun a11 c11 N11 r11 z11 => ?_)
  rw [← bytesOf_append] at r11
  refine asg rfl rfl ?_
  refine nl ?_
  refine drW .head ?_
  exact rT rfl rfl ler (fun _ _ h => h) ⟨rfl, OutB.of r11 (by rw [h5]; rfl)⟩
theorem k_AppendString {H : Fz} {L : Own} {a : Option Addr} {cap : Nat} {X : List UInt8} {N : Chunk} {x : List UInt8} (hr : Row 5 1 a X.length cap (bytesOf X) N) (hb : X.length + ((fixed (x.length : Int) 2 ++ x)).length ≤ 4294967295) :
  Fn Tryz.prog 48 [.slice a X.length cap, .string ⟨x.toArray⟩] H (N :: L) (OutK L (X ++ (fixed (x.length : Int) 2 ++ x)) H) := by
 refine Fn.mk Tryz.call48 Tryz.func48 rfl Tryz.ntmps48 rfl ?_
 refine sr ?_
 refine asg rfl rfl ?_
 refine nl ?_
 refine sr ?_
 refine mv rfl rfl ?_
 refine mv rfl rfl ?_
 refine lt' Tryz.runUnderlying9 rfl rfl ?_
 refine cv Tryz.runUnderlying3 Tryz.runUnderlying40 rfl rfl rfl ?_
 refine cl rfl rfl rfl (k_AppendInt16 hr (by rw [List.length_append, fixed_length] at hb; rw [fixed_length]; omega)) rfl (fun v H1 L1 hle hR => ?_)
 obtain ⟨rfl, a9, c9, N9, rfl, rfl, h9⟩ := hR
 refine asg rfl rfl ?_
 refine nl ?_
 refine sr ?_
 refine mv rfl rfl ?_
 refine mv rfl rfl ?_
 refine ap (news := bytesOf x) Tryz.underlying22 I5 rfl rfl h9.1 (fun _ => .head) (src_text x Tryz.underlying9) (by have h := hb; simp only [fixed_length, List.length_append] at h ⊢; omega) (by have h := hb; simp only [fixed_length, List.length_append] at h ⊢; unfold maxLen; omega) rfl (fun a12 c12 N12 r12 z12 => ?_)
 rw [← bytesOf_append] at r12
 refine asg rfl rfl ?_
 refine nl ?_
 exact rT rfl rfl ler (fun _ _ h => h) ⟨rfl, OutB.of r12 (by rw [fixed_i16, List.append_assoc]; rfl)⟩
theorem k_AppendArrayLen {H : Fz} {L : Own} {a : Option Addr} {cap : Nat} {X : List UInt8} {N : Chunk} {u : Int} (hr : Row 5 1 a X.length cap (bytesOf X) N) (hb : X.length + (fixed u 4).length ≤ 4294967295) :
  Fn Tryz.prog 46 [.slice a X.length cap, .int .i64 u] H (N :: L) (OutK L (X ++ fixed u 4) H) := by
 refine Fn.mk Tryz.call46 Tryz.func46 rfl Tryz.ntmps46 rfl ?_
 refine sr ?_
 refine asg rfl rfl ?_
 refine nl ?_
 refine sr ?_
 refine mv rfl rfl ?_
 refine mv rfl rfl ?_
 refine cv Tryz.runUnderlying3 Tryz.runUnderlying21 rfl rfl rfl ?_
 refine cl rfl rfl rfl (k_AppendInt32 hr (by rw [fixed_length] at hb ⊢; exact hb)) rfl (fun v H1 L1 hle hR => ?_)
 obtain ⟨rfl, a8, c8, N8, rfl, rfl, h8⟩ := hR
 refine asg rfl rfl ?_
 refine nl ?_
 exact rT rfl rfl ler (fun _ _ h => h) ⟨rfl, OutB.of h8.1 (by rw [fixed_i32])⟩
end Go.Sx

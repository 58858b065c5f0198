import Derived.Test.YtpcgaheplmiglaaGreatSxTab
import Derived.Test.YtpcgaheplmiglaaGreatS3
import Derived.Test.YtpcgaheplmiglaaGreatLibD
import Derived.KernelRfl
set_option linter.unusedVariables false
set_option linter.unusedSimpArgs false
set_option maxRecDepth 100000
set_option maxHeartbeats 20000000
namespace Go.Sx
open Go.Proofs
def OutK (L : Own) (X : List UInt8) (H : Fz) : Value → Fz → Own → Prop := fun v H' L' => H = H' ∧ OutB 5 L X v L'
theorem be_2 (u : Int) : fixed u 2 = [byte (u / 256), byte u] := by simp [fixed]
theorem k_AppendUint16 {H : Fz} {L : Own} {a : Option Addr} {cap : Nat} {X : List UInt8} {N : Chunk} {u : Int} (hr : Row 5 1 a X.length cap (bytesOf X) N) (hb : X.length + (fixed u 2).length ≤ 4294967295) :
  Fn Tryz.prog 74 [.slice a X.length cap, .int .u16 u] H (N :: L) (OutK L (X ++ fixed u 2) H) := by
 refine Fn.mk Tryz.call74 Tryz.func74 rfl Tryz.ntmps74 rfl ?_
 refine sr ?_
 refine asg rfl rfl ?_
 refine nl ?_
 refine sr ?_
 refine mv rfl rfl ?_
 refine mv rfl rfl ?_
 refine sh rfl rfl (by decide) (shr_eq (m := 256) rfl (by decide)) rfl ?_
 refine cv Tryz.runUnderlying127 Tryz.runUnderlying5 rfl (wrap8 _) rfl ?_
 refine mv rfl rfl ?_
 refine cv Tryz.runUnderlying127 Tryz.runUnderlying5 rfl (wrap8 _) rfl ?_
 refine bs' L22 rfl rfl rfl rfl (fun b_1 => ?_)
 refine ap (news := bytesOf ([byte (u / 256), byte u])) Tryz.underlying22 I5 rfl rfl hr (fun _ => (.tail .head)) (src_says Tryz.underlying22 rfl (fun _ => Says.own .head) (bytesOf_one _)) (by have h := hb; simp only [fixed_length, List.length_cons, List.length_nil] at h; omega) (by have h := hb; simp only [fixed_length, List.length_cons, List.length_nil] at h; unfold maxLen; omega) rfl (fun a12 c12 N12 r12 z12 => ?_)
 rw [← bytesOf_append] at r12
 refine asg rfl rfl ?_
 refine nl ?_
 refine drW .head ?_
 exact rT rfl rfl ler (fun _ _ h => h) ⟨rfl, OutB.of r12 (by rw [be_2])⟩
theorem be_4 (u : Int) : fixed u 4 = [byte (u / 16777216), byte (u / 65536), byte (u / 256), byte u] := by simp [fixed]
theorem k_AppendUint32 {H : Fz} {L : Own} {a : Option Addr} {cap : Nat} {X : List UInt8} {N : Chunk} {u : Int} (hr : Row 5 1 a X.length cap (bytesOf X) N) (hb : X.length + (fixed u 4).length ≤ 4294967295) :
  Fn Tryz.prog 73 [.slice a X.length cap, .int .u32 u] H (N :: L) (OutK L (X ++ fixed u 4) H) := by
 refine Fn.mk Tryz.call73 Tryz.func73 rfl Tryz.ntmps73 rfl ?_
 refine sr ?_
 refine asg rfl rfl ?_
 refine nl ?_
 refine sr ?_
 refine mv rfl rfl ?_
 refine mv rfl rfl ?_
 refine sh rfl rfl (by decide) (shr_eq (m := 16777216) rfl (by decide)) rfl ?_
 refine cv Tryz.runUnderlying62 Tryz.runUnderlying5 rfl (wrap8 _) rfl ?_
 refine mv rfl rfl ?_
 refine sh rfl rfl (by decide) (shr_eq (m := 65536) rfl (by decide)) rfl ?_
 refine cv Tryz.runUnderlying62 Tryz.runUnderlying5 rfl (wrap8 _) rfl ?_
 refine mv rfl rfl ?_
 refine sh rfl rfl (by decide) (shr_eq (m := 256) rfl (by decide)) rfl ?_
 refine cv Tryz.runUnderlying62 Tryz.runUnderlying5 rfl (wrap8 _) rfl ?_
 refine mv rfl rfl ?_
 refine cv Tryz.runUnderlying62 Tryz.runUnderlying5 rfl (wrap8 _) rfl ?_
 refine bs' L22 rfl rfl rfl rfl (fun b_1 => ?_)
 refine ap (news := bytesOf ([byte (u / 16777216), byte (u / 65536), byte (u / 256), byte u])) Tryz.underlying22 I5 rfl rfl hr (fun _ => (.tail .head)) (src_says Tryz.underlying22 rfl (fun _ => Says.own .head) (bytesOf_one _)) (by have h := hb; simp only [fixed_length, List.length_cons, List.length_nil] at h; omega) (by have h := hb; simp only [fixed_length, List.length_cons, List.length_nil] at h; unfold maxLen; omega) rfl (fun a18 c18 N18 r18 z18 => ?_)
 rw [← bytesOf_append] at r18
 refine asg rfl rfl ?_
 refine nl ?_
 refine drW .head ?_
 exact rT rfl rfl ler (fun _ _ h => h) ⟨rfl, OutB.of r18 (by rw [be_4])⟩
theorem be_8 (u : Int) : fixed u 8 = [byte (u / 72057594037927936), byte (u / 281474976710656), byte (u / 1099511627776), byte (u / 4294967296), byte (u / 16777216), byte (u / 65536), byte (u / 256), byte u] := by simp [fixed]
theorem k_appendUint64 {H : Fz} {L : Own} {a : Option Addr} {cap : Nat} {X : List UInt8} {N : Chunk} {u : Int} (hr : Row 5 1 a X.length cap (bytesOf X) N) (hb : X.length + (fixed u 8).length ≤ 4294967295) :
  Fn Tryz.prog 75 [.slice a X.length cap, .int .u64 u] H (N :: L) (OutK L (X ++ fixed u 8) H) := by
 refine Fn.mk Tryz.call75 Tryz.func75 rfl Tryz.ntmps75 rfl ?_
 refine sr ?_
 refine asg rfl rfl ?_
 refine nl ?_
 refine sr ?_
 refine mv rfl rfl ?_
 refine mv rfl rfl ?_
 refine sh rfl rfl (by decide) (shr_eq (m := 72057594037927936) rfl (by decide)) rfl ?_
 refine cv Tryz.runUnderlying121 Tryz.runUnderlying5 rfl (wrap8 _) rfl ?_
 refine mv rfl rfl ?_
 refine sh rfl rfl (by decide) (shr_eq (m := 281474976710656) rfl (by decide)) rfl ?_
 refine cv Tryz.runUnderlying121 Tryz.runUnderlying5 rfl (wrap8 _) rfl ?_
 refine mv rfl rfl ?_
 refine sh rfl rfl (by decide) (shr_eq (m := 1099511627776) rfl (by decide)) rfl ?_
 refine cv Tryz.runUnderlying121 Tryz.runUnderlying5 rfl (wrap8 _) rfl ?_
 refine mv rfl rfl ?_
 refine sh rfl rfl (by decide) (shr_eq (m := 4294967296) rfl (by decide)) rfl ?_
 refine cv Tryz.runUnderlying121 Tryz.runUnderlying5 rfl (wrap8 _) rfl ?_
 refine mv rfl rfl ?_
 refine sh rfl rfl (by decide) (shr_eq (m := 16777216) rfl (by decide)) rfl ?_
 refine cv Tryz.runUnderlying121 Tryz.runUnderlying5 rfl (wrap8 _) rfl ?_
 refine mv rfl rfl ?_
 refine sh rfl rfl (by decide) (shr_eq (m := 65536) rfl (by decide)) rfl ?_
 refine cv Tryz.runUnderlying121 Tryz.runUnderlying5 rfl (wrap8 _) rfl ?_
 refine mv rfl rfl ?_
 refine sh rfl rfl (by decide) (shr_eq (m := 256) rfl (by decide)) rfl ?_
 refine cv Tryz.runUnderlying121 Tryz.runUnderlying5 rfl (wrap8 _) rfl ?_
 refine mv rfl rfl ?_
 refine cv Tryz.runUnderlying121 Tryz.runUnderlying5 rfl (wrap8 _) rfl ?_
 refine bs' L22 rfl rfl rfl rfl (fun b_1 => ?_)
 refine ap (news := bytesOf ([byte (u / 72057594037927936), byte (u / 281474976710656), byte (u / 1099511627776), byte (u / 4294967296), byte (u / 16777216), byte (u / 65536), byte (u / 256), byte u])) Tryz.underlying22 I5 rfl rfl hr (fun _ => (.tail .head)) (src_says Tryz.underlying22 rfl (fun _ => Says.own .head) (bytesOf_one _)) (by have h := hb; simp only [fixed_length, List.length_cons, List.length_nil] at h; omega) (by have h := hb; simp only [fixed_length, List.length_cons, List.length_nil] at h; unfold maxLen; omega) rfl (fun a30 c30 N30 r30 z30 => ?_)
 rw [← bytesOf_append] at r30
 refine asg rfl rfl ?_
 refine nl ?_
 refine drW .head ?_
 exact rT rfl rfl ler (fun _ _ h => h) ⟨rfl, OutB.of r30 (by rw [be_8])⟩
theorem k_AppendInt16 {H : Fz} {L : Own} {a : Option Addr} {cap : Nat} {X : List UInt8} {N : Chunk} {u : Int} (hr : Row 5 1 a X.length cap (bytesOf X) N) (hb : X.length + (fixed u 2).length ≤ 4294967295) :
  Fn Tryz.prog 34 [.slice a X.length cap, .int .i16 u] H (N :: L) (OutK L (X ++ fixed u 2) H) := by
 refine Fn.mk Tryz.call34 Tryz.func34 rfl Tryz.ntmps34 rfl ?_
 refine sr ?_
 refine asg rfl rfl ?_
 refine nl ?_
 refine sr ?_
 refine mv rfl rfl ?_
 refine mv rfl rfl ?_
 refine cv Tryz.runUnderlying45 Tryz.runUnderlying127 rfl rfl rfl ?_
 refine cl rfl rfl rfl (k_AppendUint16 hr (by rw [fixed_length] at hb ⊢; exact hb)) rfl (fun v H1 L1 hle hR => ?_)
 obtain ⟨rfl, a8, c8, N8, rfl, rfl, h8⟩ := hR
 refine asg rfl rfl ?_
 refine nl ?_
 exact rT rfl rfl ler (fun _ _ h => h) ⟨rfl, OutB.of h8.1 (by rw [fixed_u16])⟩
theorem k_AppendInt32 {H : Fz} {L : Own} {a : Option Addr} {cap : Nat} {X : List UInt8} {N : Chunk} {u : Int} (hr : Row 5 1 a X.length cap (bytesOf X) N) (hb : X.length + (fixed u 4).length ≤ 4294967295) :
  Fn Tryz.prog 33 [.slice a X.length cap, .int .i32 u] H (N :: L) (OutK L (X ++ fixed u 4) H) := by
 refine Fn.mk Tryz.call33 Tryz.func33 rfl Tryz.ntmps33 rfl ?_
 refine sr ?_
 refine asg rfl rfl ?_
 refine nl ?_
 refine sr ?_
 refine mv rfl rfl ?_
 refine mv rfl rfl ?_
 refine cv Tryz.runUnderlying21 Tryz.runUnderlying62 rfl rfl rfl ?_
 refine cl rfl rfl rfl (k_AppendUint32 hr (by rw [fixed_length] at hb ⊢; exact hb)) rfl (fun v H1 L1 hle hR => ?_)
 obtain ⟨rfl, a8, c8, N8, rfl, rfl, h8⟩ := hR
 refine asg rfl rfl ?_
 refine nl ?_
 exact rT rfl rfl ler (fun _ _ h => h) ⟨rfl, OutB.of h8.1 (by rw [fixed_u32])⟩
theorem k_AppendInt64 {H : Fz} {L : Own} {a : Option Addr} {cap : Nat} {X : List UInt8} {N : Chunk} {u : Int} (hr : Row 5 1 a X.length cap (bytesOf X) N) (hb : X.length + (fixed u 8).length ≤ 4294967295) :
  Fn Tryz.prog 40 [.slice a X.length cap, .int .i64 u] H (N :: L) (OutK L (X ++ fixed u 8) H) := by
 refine Fn.mk Tryz.call40 Tryz.func40 rfl Tryz.ntmps40 rfl ?_
 refine sr ?_
 refine asg rfl rfl ?_
 refine nl ?_
 refine sr ?_
 refine mv rfl rfl ?_
 refine mv rfl rfl ?_
 refine cv Tryz.runUnderlying2 Tryz.runUnderlying121 rfl rfl rfl ?_
 refine cl rfl rfl rfl (k_appendUint64 hr (by rw [fixed_length] at hb ⊢; exact hb)) rfl (fun v H1 L1 hle hR => ?_)
 obtain ⟨rfl, a8, c8, N8, rfl, rfl, h8⟩ := hR
 refine asg rfl rfl ?_
 refine nl ?_
 exact rT rfl rfl ler (fun _ _ h => h) ⟨rfl, OutB.of h8.1 (by rw [fixed_u64])⟩
theorem k_AppendString {H : Fz} {L : Own} {a : Option Addr} {cap : Nat} {X : List UInt8} {N : Chunk} {x : List UInt8} (hr : Row 5 1 a X.length cap (bytesOf X) N) (hb : X.length + ((fixed (x.length : Int) 2 ++ x)).length ≤ 4294967295) :
  Fn Tryz.prog 38 [.slice a X.length cap, .string ⟨x.toArray⟩] H (N :: L) (OutK L (X ++ (fixed (x.length : Int) 2 ++ x)) H) := by
 refine Fn.mk Tryz.call38 Tryz.func38 rfl Tryz.ntmps38 rfl ?_
 refine sr ?_
 refine asg rfl rfl ?_
 refine nl ?_
 refine sr ?_
 refine mv rfl rfl ?_
 refine mv rfl rfl ?_
 refine lt' Tryz.runUnderlying9 rfl rfl ?_
 refine cv Tryz.runUnderlying3 Tryz.runUnderlying45 rfl rfl rfl ?_
 refine cl rfl rfl rfl (k_AppendInt16 hr (by rw [List.length_append, fixed_length] at hb; rw [fixed_length]; omega)) rfl (fun v H1 L1 hle hR => ?_)
 obtain ⟨rfl, a9, c9, N9, rfl, rfl, h9⟩ := hR
 refine asg rfl rfl ?_
 refine nl ?_
 refine sr ?_
 refine mv rfl rfl ?_
 refine mv rfl rfl ?_
 refine ap (news := bytesOf x) Tryz.underlying22 I5 rfl rfl h9.1 (fun _ => .head) (src_text x Tryz.underlying9) (by have h := hb; simp only [fixed_length, List.length_append] at h ⊢; omega) (by have h := hb; simp only [fixed_length, List.length_append] at h ⊢; unfold maxLen; omega) rfl (fun a12 c12 N12 r12 z12 => ?_)
 rw [← bytesOf_append] at r12
 refine asg rfl rfl ?_
 refine nl ?_
 exact rT rfl rfl ler (fun _ _ h => h) ⟨rfl, OutB.of r12 (by rw [fixed_i16, List.append_assoc]; rfl)⟩
theorem k_AppendArrayLen {H : Fz} {L : Own} {a : Option Addr} {cap : Nat} {X : List UInt8} {N : Chunk} {u : Int} (hr : Row 5 1 a X.length cap (bytesOf X) N) (hb : X.length + (fixed u 4).length ≤ 4294967295) :
  Fn Tryz.prog 36 [.slice a X.length cap, .int .i64 u] H (N :: L) (OutK L (X ++ fixed u 4) H) := by
 refine Fn.mk Tryz.call36 Tryz.func36 rfl Tryz.ntmps36 rfl ?_
 refine sr ?_
 refine asg rfl rfl ?_
 refine nl ?_
 refine sr ?_
 refine mv rfl rfl ?_
 refine mv rfl rfl ?_
 refine cv Tryz.runUnderlying3 Tryz.runUnderlying21 rfl rfl rfl ?_
 refine cl rfl rfl rfl (k_AppendInt32 hr (by rw [fixed_length] at hb ⊢; exact hb)) rfl (fun v H1 L1 hle hR => ?_)
 obtain ⟨rfl, a8, c8, N8, rfl, rfl, h8⟩ := hR
 refine asg rfl rfl ?_
 refine nl ?_
 exact rT rfl rfl ler (fun _ _ h => h) ⟨rfl, OutB.of h8.1 (by rw [fixed_i32])⟩
theorem k_AppendBytes {H : Fz} {L : Own} {a : Option Addr} {cap : Nat} {X : List UInt8} {N : Chunk} {x : List UInt8} {xa : Option Addr} {xc : Nat} (hx : BytesAt H xa xc x) (hr : Row 5 1 a X.length cap (bytesOf X) N) (hb : X.length + ((fixed (x.length : Int) 4 ++ x)).length ≤ 4294967295) :
  Fn Tryz.prog 80 [.slice a X.length cap, .slice xa x.length xc] H (N :: L) (OutK L (X ++ (fixed (x.length : Int) 4 ++ x)) H) := by
 refine Fn.mk Tryz.call80 Tryz.func80 rfl Tryz.ntmps80 rfl ?_
 refine sr ?_
 refine asg rfl rfl ?_
 refine nl ?_
 refine sr ?_
 refine mv rfl rfl ?_
 refine mv rfl rfl ?_
 refine ls Tryz.runUnderlying22 rfl rfl ?_
 refine cv Tryz.runUnderlying3 Tryz.runUnderlying21 rfl rfl rfl ?_
 refine cl rfl rfl rfl (k_AppendInt32 hr (by rw [List.length_append, fixed_length] at hb; rw [fixed_length]; omega)) rfl (fun v H1 L1 hle hR => ?_)
 obtain ⟨rfl, a9, c9, N9, rfl, rfl, h9⟩ := hR
 refine asg rfl rfl ?_
 refine nl ?_
 refine sr ?_
 refine mv rfl rfl ?_
 refine mv rfl rfl ?_
 refine ap (news := bytesOf x) Tryz.underlying22 I5 rfl rfl h9.1 (fun _ => .head) (src_bytes Tryz.underlying22 hx rfl) (by have h := hb; simp only [fixed_length, List.length_append] at h ⊢; omega) (by have h := hb; simp only [fixed_length, List.length_append] at h ⊢; unfold maxLen; omega) rfl (fun a12 c12 N12 r12 z12 => ?_)
 rw [← bytesOf_append] at r12
 refine asg rfl rfl ?_
 refine nl ?_
 exact rT rfl rfl ler (fun _ _ h => h) ⟨rfl, OutB.of r12 (by rw [fixed_i32, List.append_assoc])⟩
end Go.Sx

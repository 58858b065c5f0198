import Derived.Test.YtjpidbdhoiagpaaGreatDoorSxTab
import Derived.Test.YtjpidbdhoiagpaaGreatDoorS3
import Derived.Test.YtjpidbdhoiagpaaGreatDoorLibD
import Derived.KernelRfl
set_option linter.unusedVariables false
set_option linter.unusedSimpArgs false
set_option maxRecDepth 100000
set_option maxHeartbeats 20000000
namespace Go.Sx
open Go.Proofs
def OutK (L : Own) (X : List UInt8) (H : Fz) : Value → Fz → Own → Prop := fun v H' L' => H = H' ∧ OutB 5 L X v L'
theorem be_2 (u : Int) : fixed u 2 = [byte (u / 256), byte u] := by simp [fixed]
theorem k_AppendUint16 {H : Fz} {L : Own} {a : Option Addr} {cap : Nat} {X : List UInt8} {N : Chunk} {u : Int} (hr : Row 5 1 a X.length cap (bytesOf X) N) (hb : X.length + (fixed u 2).length ≤ 140737488355328) :
  Fn Tryz.prog 126 [.slice a X.length cap, .int .u16 u] H (N :: L) (OutK L (X ++ fixed u 2) H) := by
 refine Fn.mk Tryz.call126 Tryz.func126 rfl Tryz.ntmps126 rfl ?_
 refine sr ?_
 refine asg rfl rfl ?_
 refine nl ?_
 refine sr ?_
 refine mv rfl rfl ?_
 refine mv rfl rfl ?_
 refine sh rfl rfl (by decide) (shr_eq (m := 256) rfl (by decide)) rfl ?_
 refine cv Tryz.runUnderlying155 Tryz.runUnderlying5 rfl (wrap8 _) rfl ?_
 refine mv rfl rfl ?_
 refine cv Tryz.runUnderlying155 Tryz.runUnderlying5 rfl (wrap8 _) rfl ?_
 refine bs' L24 rfl rfl rfl rfl (fun b_1 => ?_)
 refine ap (news := bytesOf ([byte (u / 256), byte u])) Tryz.underlying24 I5 rfl rfl hr (fun _ => (.tail .head)) (src_says Tryz.underlying24 rfl (fun _ => Says.own .head) (bytesOf_one _)) (by have h := hb; simp only [fixed_length, List.length_cons, List.length_nil] at h; omega) (by have h := hb; simp only [fixed_length, List.length_cons, List.length_nil] at h; unfold maxLen; omega) rfl (fun a12 c12 N12 r12 z12 => ?_)
 rw [← bytesOf_append] at r12
 refine asg rfl rfl ?_
 refine nl ?_
 refine drW .head ?_
 exact rT rfl rfl ler (fun _ _ h => h) ⟨rfl, OutB.of r12 (by rw [be_2])⟩
theorem be_4 (u : Int) : fixed u 4 = [byte (u / 16777216), byte (u / 65536), byte (u / 256), byte u] := by simp [fixed]
theorem k_AppendUint32 {H : Fz} {L : Own} {a : Option Addr} {cap : Nat} {X : List UInt8} {N : Chunk} {u : Int} (hr : Row 5 1 a X.length cap (bytesOf X) N) (hb : X.length + (fixed u 4).length ≤ 140737488355328) :
  Fn Tryz.prog 127 [.slice a X.length cap, .int .u32 u] H (N :: L) (OutK L (X ++ fixed u 4) H) := by
 refine Fn.mk Tryz.call127 Tryz.func127 rfl Tryz.ntmps127 rfl ?_
 refine sr ?_
 refine asg rfl rfl ?_
 refine nl ?_
 refine sr ?_
 refine mv rfl rfl ?_
 refine mv rfl rfl ?_
 refine sh rfl rfl (by decide) (shr_eq (m := 16777216) rfl (by decide)) rfl ?_
 refine cv Tryz.runUnderlying67 Tryz.runUnderlying5 rfl (wrap8 _) rfl ?_
 refine mv rfl rfl ?_
 refine sh rfl rfl (by decide) (shr_eq (m := 65536) rfl (by decide)) rfl ?_
 refine cv Tryz.runUnderlying67 Tryz.runUnderlying5 rfl (wrap8 _) rfl ?_
 refine mv rfl rfl ?_
 refine sh rfl rfl (by decide) (shr_eq (m := 256) rfl (by decide)) rfl ?_
 refine cv Tryz.runUnderlying67 Tryz.runUnderlying5 rfl (wrap8 _) rfl ?_
 refine mv rfl rfl ?_
 refine cv Tryz.runUnderlying67 Tryz.runUnderlying5 rfl (wrap8 _) rfl ?_
 refine bs' L24 rfl rfl rfl rfl (fun b_1 => ?_)
 refine ap (news := bytesOf ([byte (u / 16777216), byte (u / 65536), byte (u / 256), byte u])) Tryz.underlying24 I5 rfl rfl hr (fun _ => (.tail .head)) (src_says Tryz.underlying24 rfl (fun _ => Says.own .head) (bytesOf_one _)) (by have h := hb; simp only [fixed_length, List.length_cons, List.length_nil] at h; omega) (by have h := hb; simp only [fixed_length, List.length_cons, List.length_nil] at h; unfold maxLen; omega) rfl (fun a18 c18 N18 r18 z18 => ?_)
 rw [← bytesOf_append] at r18
 refine asg rfl rfl ?_
 refine nl ?_
 refine drW .head ?_
 exact rT rfl rfl ler (fun _ _ h => h) ⟨rfl, OutB.of r18 (by rw [be_4])⟩
theorem be_8 (u : Int) : fixed u 8 = [byte (u / 72057594037927936), byte (u / 281474976710656), byte (u / 1099511627776), byte (u / 4294967296), byte (u / 16777216), byte (u / 65536), byte (u / 256), byte u] := by simp [fixed]
theorem k_appendUint64 {H : Fz} {L : Own} {a : Option Addr} {cap : Nat} {X : List UInt8} {N : Chunk} {u : Int} (hr : Row 5 1 a X.length cap (bytesOf X) N) (hb : X.length + (fixed u 8).length ≤ 140737488355328) :
  Fn Tryz.prog 203 [.slice a X.length cap, .int .u64 u] H (N :: L) (OutK L (X ++ fixed u 8) H) := by
 refine Fn.mk Tryz.call203 Tryz.func203 rfl Tryz.ntmps203 rfl ?_
 refine sr ?_
 refine asg rfl rfl ?_
 refine nl ?_
 refine sr ?_
 refine mv rfl rfl ?_
 refine mv rfl rfl ?_
 refine sh rfl rfl (by decide) (shr_eq (m := 72057594037927936) rfl (by decide)) rfl ?_
 refine cv Tryz.runUnderlying83 Tryz.runUnderlying5 rfl (wrap8 _) rfl ?_
 refine mv rfl rfl ?_
 refine sh rfl rfl (by decide) (shr_eq (m := 281474976710656) rfl (by decide)) rfl ?_
 refine cv Tryz.runUnderlying83 Tryz.runUnderlying5 rfl (wrap8 _) rfl ?_
 refine mv rfl rfl ?_
 refine sh rfl rfl (by decide) (shr_eq (m := 1099511627776) rfl (by decide)) rfl ?_
 refine cv Tryz.runUnderlying83 Tryz.runUnderlying5 rfl (wrap8 _) rfl ?_
 refine mv rfl rfl ?_
 refine sh rfl rfl (by decide) (shr_eq (m := 4294967296) rfl (by decide)) rfl ?_
 refine cv Tryz.runUnderlying83 Tryz.runUnderlying5 rfl (wrap8 _) rfl ?_
 refine mv rfl rfl ?_
 refine sh rfl rfl (by decide) (shr_eq (m := 16777216) rfl (by decide)) rfl ?_
 refine cv Tryz.runUnderlying83 Tryz.runUnderlying5 rfl (wrap8 _) rfl ?_
 refine mv rfl rfl ?_
 refine sh rfl rfl (by decide) (shr_eq (m := 65536) rfl (by decide)) rfl ?_
 refine cv Tryz.runUnderlying83 Tryz.runUnderlying5 rfl (wrap8 _) rfl ?_
 refine mv rfl rfl ?_
 refine sh rfl rfl (by decide) (shr_eq (m := 256) rfl (by decide)) rfl ?_
 refine cv Tryz.runUnderlying83 Tryz.runUnderlying5 rfl (wrap8 _) rfl ?_
 refine mv rfl rfl ?_
 refine cv Tryz.runUnderlying83 Tryz.runUnderlying5 rfl (wrap8 _) rfl ?_
 refine bs' L24 rfl rfl rfl rfl (fun b_1 => ?_)
 refine ap (news := bytesOf ([byte (u / 72057594037927936), byte (u / 281474976710656), byte (u / 1099511627776), byte (u / 4294967296), byte (u / 16777216), byte (u / 65536), byte (u / 256), byte u])) Tryz.underlying24 I5 rfl rfl hr (fun _ => (.tail .head)) (src_says Tryz.underlying24 rfl (fun _ => Says.own .head) (bytesOf_one _)) (by have h := hb; simp only [fixed_length, List.length_cons, List.length_nil] at h; omega) (by have h := hb; simp only [fixed_length, List.length_cons, List.length_nil] at h; unfold maxLen; omega) rfl (fun a30 c30 N30 r30 z30 => ?_)
 rw [← bytesOf_append] at r30
 refine asg rfl rfl ?_
 refine nl ?_
 refine drW .head ?_
 exact rT rfl rfl ler (fun _ _ h => h) ⟨rfl, OutB.of r30 (by rw [be_8])⟩
theorem k_AppendInt16 {H : Fz} {L : Own} {a : Option Addr} {cap : Nat} {X : List UInt8} {N : Chunk} {u : Int} (hr : Row 5 1 a X.length cap (bytesOf X) N) (hb : X.length + (fixed u 2).length ≤ 140737488355328) :
  Fn Tryz.prog 104 [.slice a X.length cap, .int .i16 u] H (N :: L) (OutK L (X ++ fixed u 2) H) := by
 refine Fn.mk Tryz.call104 Tryz.func104 rfl Tryz.ntmps104 rfl ?_
 refine sr ?_
 refine asg rfl rfl ?_
 refine nl ?_
 refine sr ?_
 refine mv rfl rfl ?_
 refine mv rfl rfl ?_
 refine cv Tryz.runUnderlying45 Tryz.runUnderlying155 rfl rfl rfl ?_
 refine cl rfl rfl rfl (k_AppendUint16 hr (by rw [fixed_length] at hb ⊢; exact hb)) rfl (fun v H1 L1 hle hR => ?_)
 obtain ⟨rfl, a8, c8, N8, rfl, rfl, h8⟩ := hR
 refine asg rfl rfl ?_
 refine nl ?_
 exact rT rfl rfl ler (fun _ _ h => h) ⟨rfl, OutB.of h8.1 (by rw [fixed_u16])⟩
theorem k_AppendInt32 {H : Fz} {L : Own} {a : Option Addr} {cap : Nat} {X : List UInt8} {N : Chunk} {u : Int} (hr : Row 5 1 a X.length cap (bytesOf X) N) (hb : X.length + (fixed u 4).length ≤ 140737488355328) :
  Fn Tryz.prog 105 [.slice a X.length cap, .int .i32 u] H (N :: L) (OutK L (X ++ fixed u 4) H) := by
 refine Fn.mk Tryz.call105 Tryz.func105 rfl Tryz.ntmps105 rfl ?_
 refine sr ?_
 refine asg rfl rfl ?_
 refine nl ?_
 refine sr ?_
 refine mv rfl rfl ?_
 refine mv rfl rfl ?_
 refine cv Tryz.runUnderlying21 Tryz.runUnderlying67 rfl rfl rfl ?_
 refine cl rfl rfl rfl (k_AppendUint32 hr (by rw [fixed_length] at hb ⊢; exact hb)) rfl (fun v H1 L1 hle hR => ?_)
 obtain ⟨rfl, a8, c8, N8, rfl, rfl, h8⟩ := hR
 refine asg rfl rfl ?_
 refine nl ?_
 exact rT rfl rfl ler (fun _ _ h => h) ⟨rfl, OutB.of h8.1 (by rw [fixed_u32])⟩
theorem k_AppendInt64 {H : Fz} {L : Own} {a : Option Addr} {cap : Nat} {X : List UInt8} {N : Chunk} {u : Int} (hr : Row 5 1 a X.length cap (bytesOf X) N) (hb : X.length + (fixed u 8).length ≤ 140737488355328) :
  Fn Tryz.prog 201 [.slice a X.length cap, .int .i64 u] H (N :: L) (OutK L (X ++ fixed u 8) H) := by
 refine Fn.mk Tryz.call201 Tryz.func201 rfl Tryz.ntmps201 rfl ?_
 refine sr ?_
 refine asg rfl rfl ?_
 refine nl ?_
 refine sr ?_
 refine mv rfl rfl ?_
 refine mv rfl rfl ?_
 refine cv Tryz.runUnderlying2 Tryz.runUnderlying83 rfl rfl rfl ?_
 refine cl rfl rfl rfl (k_appendUint64 hr (by rw [fixed_length] at hb ⊢; exact hb)) rfl (fun v H1 L1 hle hR => ?_)
 obtain ⟨rfl, a8, c8, N8, rfl, rfl, h8⟩ := hR
 refine asg rfl rfl ?_
 refine nl ?_
 exact rT rfl rfl ler (fun _ _ h => h) ⟨rfl, OutB.of h8.1 (by rw [fixed_u64])⟩
theorem k_AppendInt8 {H : Fz} {L : Own} {a : Option Addr} {cap : Nat} {X : List UInt8} {N : Chunk} {u : Int} (hr : Row 5 1 a X.length cap (bytesOf X) N) (hb : X.length + (fixed u 1).length ≤ 140737488355328) :
  Fn Tryz.prog 156 [.slice a X.length cap, .int .i8 u] H (N :: L) (OutK L (X ++ fixed u 1) H) := by
 refine Fn.mk Tryz.call156 Tryz.func156 rfl Tryz.ntmps156 rfl ?_
 refine sr ?_
 refine asg rfl rfl ?_
 refine nl ?_
 refine sr ?_
 refine mv rfl rfl ?_
 refine mv rfl rfl ?_
 refine cv Tryz.runUnderlying105 Tryz.runUnderlying5 rfl (wrap8 _) rfl ?_
 refine bs' L24 rfl rfl rfl rfl (fun b_1 => ?_)
 refine ap (news := bytesOf ([byte u])) Tryz.underlying24 I5 rfl rfl hr (fun _ => (.tail .head)) (src_says Tryz.underlying24 rfl (fun _ => Says.own .head) (bytesOf_one _)) (by have h := hb; simp only [fixed_length, List.length_cons, List.length_nil] at h; omega) (by have h := hb; simp only [fixed_length, List.length_cons, List.length_nil] at h; unfold maxLen; omega) rfl (fun a9 c9 N9 r9 z9 => ?_)
 rw [← bytesOf_append] at r9
 refine asg rfl rfl ?_
 refine nl ?_
 refine drW .head ?_
 exact rT rfl rfl ler (fun _ _ h => h) ⟨rfl, OutB.of r9 (by rw [fixed1])⟩
theorem k_AppendBool {H : Fz} {L : Own} {a : Option Addr} {cap : Nat} {X : List UInt8} {N : Chunk} {b : Bool} (hr : Row 5 1 a X.length cap (bytesOf X) N) (hb : X.length + ([if b then 1 else 0]).length ≤ 140737488355328) :
  Fn Tryz.prog 202 [.slice a X.length cap, .bool b] H (N :: L) (OutK L (X ++ [if b then 1 else 0]) H) := by
 refine Fn.mk Tryz.call202 Tryz.func202 rfl Tryz.ntmps202 rfl ?_
 refine sr ?_
 refine asg rfl rfl ?_
 refine nl ?_
 refine sq ?_
 refine sr ?_
 refine mv rfl rfl ?_
 refine nl ?_
 refine cbU rfl (fun h5 => ?_) (fun h5 => ?_)
 ·
  refine sr ?_
  refine mv rfl rfl ?_
  refine bs' L24 rfl rfl rfl rfl (fun b_1 => ?_)
  refine ap (news := bytesOf ([1])) Tryz.underlying24 I5 rfl rfl hr (fun _ => (.tail .head)) (src_says Tryz.underlying24 rfl (fun _ => Says.own .head) (bytesOf_one _)) (by have h := hb; simp only [fixed_length, List.length_cons, List.length_nil] at h; omega) (by have h := hb; simp only [fixed_length, List.length_cons, List.length_nil] at h; unfold maxLen; omega) rfl (fun a8 c8 N8 r8 z8 => ?_)
  rw [← bytesOf_append] at r8
  refine asg rfl rfl ?_
  refine nl ?_
  refine drW .head ?_
  exact rT rfl rfl ler (fun _ _ h => h) ⟨rfl, OutB.of r8 (by rw [h5]; rfl)⟩
 ·
  refine skt ?_
  refine sr ?_
  refine mv rfl rfl ?_
  refine bs' L24 rfl rfl rfl rfl (fun b_2 => ?_)
  refine ap (news := bytesOf ([0])) Tryz.underlying24 I5 rfl rfl hr (fun _ => (.tail .head)) (src_says Tryz.underlying24 rfl (fun _ => Says.own .head) (bytesOf_one _)) (by have h := hb; simp only [fixed_length, List.length_cons, List.length_nil] at h; omega) (by have h := hb; simp only [fixed_length, List.length_cons, List.length_nil] at h; unfold maxLen; omega) rfl (fun a11 c11 N11 r11 z11 => ?_)
  rw [← bytesOf_append] at r11
  refine asg rfl rfl ?_
  refine nl ?_
  refine drW .head ?_
  exact rT rfl rfl ler (fun _ _ h => h) ⟨rfl, OutB.of r11 (by rw [h5]; rfl)⟩
theorem k_AppendString {H : Fz} {L : Own} {a : Option Addr} {cap : Nat} {X : List UInt8} {N : Chunk} {x : List UInt8} (hr : Row 5 1 a X.length cap (bytesOf X) N) (hb : X.length + ((fixed (x.length : Int) 2 ++ x)).length ≤ 140737488355328) :
  Fn Tryz.prog 128 [.slice a X.length cap, .string ⟨x.toArray⟩] H (N :: L) (OutK L (X ++ (fixed (x.length : Int) 2 ++ x)) H) := by
 refine Fn.mk Tryz.call128 Tryz.func128 rfl Tryz.ntmps128 rfl ?_
 refine sr ?_
 refine asg rfl rfl ?_
 refine nl ?_
 refine sr ?_
 refine mv rfl rfl ?_
 refine mv rfl rfl ?_
 refine lt' Tryz.runUnderlying9 rfl rfl ?_
 refine cv Tryz.runUnderlying3 Tryz.runUnderlying45 rfl rfl rfl ?_
 refine cl rfl rfl rfl (k_AppendInt16 hr (by rw [List.length_append, fixed_length] at hb; rw [fixed_length]; omega)) rfl (fun v H1 L1 hle hR => ?_)
 obtain ⟨rfl, a9, c9, N9, rfl, rfl, h9⟩ := hR
 refine asg rfl rfl ?_
 refine nl ?_
 refine sr ?_
 refine mv rfl rfl ?_
 refine mv rfl rfl ?_
 refine ap (news := bytesOf x) Tryz.underlying24 I5 rfl rfl h9.1 (fun _ => .head) (src_text x Tryz.underlying9) (by have h := hb; simp only [fixed_length, List.length_append] at h ⊢; omega) (by have h := hb; simp only [fixed_length, List.length_append] at h ⊢; unfold maxLen; omega) rfl (fun a12 c12 N12 r12 z12 => ?_)
 rw [← bytesOf_append] at r12
 refine asg rfl rfl ?_
 refine nl ?_
 exact rT rfl rfl ler (fun _ _ h => h) ⟨rfl, OutB.of r12 (by rw [fixed_i16, List.append_assoc]; rfl)⟩
theorem k_AppendArrayLen {H : Fz} {L : Own} {a : Option Addr} {cap : Nat} {X : List UInt8} {N : Chunk} {u : Int} (hr : Row 5 1 a X.length cap (bytesOf X) N) (hb : X.length + (fixed u 4).length ≤ 140737488355328) :
  Fn Tryz.prog 154 [.slice a X.length cap, .int .i64 u] H (N :: L) (OutK L (X ++ fixed u 4) H) := by
 refine Fn.mk Tryz.call154 Tryz.func154 rfl Tryz.ntmps154 rfl ?_
 refine sr ?_
 refine asg rfl rfl ?_
 refine nl ?_
 refine sr ?_
 refine mv rfl rfl ?_
 refine mv rfl rfl ?_
 refine cv Tryz.runUnderlying3 Tryz.runUnderlying21 rfl rfl rfl ?_
 refine cl rfl rfl rfl (k_AppendInt32 hr (by rw [fixed_length] at hb ⊢; exact hb)) rfl (fun v H1 L1 hle hR => ?_)
 obtain ⟨rfl, a8, c8, N8, rfl, rfl, h8⟩ := hR
 refine asg rfl rfl ?_
 refine nl ?_
 exact rT rfl rfl ler (fun _ _ h => h) ⟨rfl, OutB.of h8.1 (by rw [fixed_i32])⟩
theorem k_AppendBytes {H : Fz} {L : Own} {a : Option Addr} {cap : Nat} {X : List UInt8} {N : Chunk} {x : List UInt8} {xa : Option Addr} {xc : Nat} (hx : BytesAt H xa xc x) (hr : Row 5 1 a X.length cap (bytesOf X) N) (hb : X.length + ((fixed (x.length : Int) 4 ++ x)).length ≤ 140737488355328) :
  Fn Tryz.prog 161 [.slice a X.length cap, .slice xa x.length xc] H (N :: L) (OutK L (X ++ (fixed (x.length : Int) 4 ++ x)) H) := by
 refine Fn.mk Tryz.call161 Tryz.func161 rfl Tryz.ntmps161 rfl ?_
 refine sr ?_
 refine asg rfl rfl ?_
 refine nl ?_
 refine sr ?_
 refine mv rfl rfl ?_
 refine mv rfl rfl ?_
 refine ls Tryz.runUnderlying24 rfl rfl ?_
 refine cv Tryz.runUnderlying3 Tryz.runUnderlying21 rfl rfl rfl ?_
 refine cl rfl rfl rfl (k_AppendInt32 hr (by rw [List.length_append, fixed_length] at hb; rw [fixed_length]; omega)) rfl (fun v H1 L1 hle hR => ?_)
 obtain ⟨rfl, a9, c9, N9, rfl, rfl, h9⟩ := hR
 refine asg rfl rfl ?_
 refine nl ?_
 refine sr ?_
 refine mv rfl rfl ?_
 refine mv rfl rfl ?_
 refine ap (news := bytesOf x) Tryz.underlying24 I5 rfl rfl h9.1 (fun _ => .head) (src_bytes Tryz.underlying24 hx rfl) (by have h := hb; simp only [fixed_length, List.length_append] at h ⊢; omega) (by have h := hb; simp only [fixed_length, List.length_append] at h ⊢; unfold maxLen; omega) rfl (fun a12 c12 N12 r12 z12 => ?_)
 rw [← bytesOf_append] at r12
 refine asg rfl rfl ?_
 refine nl ?_
 exact rT rfl rfl ler (fun _ _ h => h) ⟨rfl, OutB.of r12 (by rw [fixed_i32, List.append_assoc])⟩
end Go.Sx

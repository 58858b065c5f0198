/- Plain laws on octets that kbin appends. -/
import Derived.Test.YtahmkeoedpghjabGreatFitL
import Derived.Laws.Cover3
import Derived.Laws.Pointers
set_option linter.unusedVariables false
set_option linter.unusedSimpArgs false
namespace Go.Sx
theorem fixed_congr {x y : Int} : ∀ k, (∀ j, j < k → (x / 2 ^ (8 * j)) % 256 = (y / 2 ^ (8 * j)) % 256) → fixed x k = fixed y k
  | 0, _ => rfl
  | k + 1, h => by
    simp only [fixed, byte]
    rw [h k (by omega), fixed_congr k (fun j hj => h j (by omega))]
theorem fixed_w2 (x : Int) : fixed (x % 65536) 2 = fixed x 2 := fixed_congr 2 fun j hj => by
  have hj' : j = 0 ∨ j = 1 := by omega
  rcases hj' with rfl | rfl <;> simp only [Nat.reduceMul, Int.reducePow] <;> omega
theorem fixed_w4 (x : Int) : fixed (x % 4294967296) 4 = fixed x 4 := fixed_congr 4 fun j hj => by
  have hj' : j = 0 ∨ j = 1 ∨ j = 2 ∨ j = 3 := by omega
  rcases hj' with rfl | rfl | rfl | rfl <;> simp only [Nat.reduceMul, Int.reducePow] <;> omega
theorem fixed_w8 (x : Int) : fixed (x % 18446744073709551616) 8 = fixed x 8 := fixed_congr 8 fun j hj => by
  have hj' : j = 0 ∨ j = 1 ∨ j = 2 ∨ j = 3 ∨ j = 4 ∨ j = 5 ∨ j = 6 ∨ j = 7 := by omega
  rcases hj' with rfl | rfl | rfl | rfl | rfl | rfl | rfl | rfl <;> simp only [Nat.reduceMul, Int.reducePow] <;> omega
theorem fixed1 (x : Int) : fixed x 1 = [byte x] := by simp [fixed]
theorem wrap16u (x : Int) : IntKind.u16.wrap x = x % 65536 := by
  unfold IntKind.wrap
  have hb : (2 : Int) ^ IntKind.u16.bits = 65536 := rfl
  simp [hb, show IntKind.u16.signed = false from rfl]
theorem wrap64u (x : Int) : IntKind.u64.wrap x = x % 18446744073709551616 := by
  unfold IntKind.wrap
  have hb : (2 : Int) ^ IntKind.u64.bits = 18446744073709551616 := rfl
  simp [hb, show IntKind.u64.signed = false from rfl]
theorem wrap16s_mod (x : Int) : IntKind.i16.wrap x % 65536 = x % 65536 := by
  unfold IntKind.wrap
  have hb : (2 : Int) ^ IntKind.i16.bits = 65536 := rfl
  simp only [hb, show IntKind.i16.signed = true from rfl]
  simp
  split <;> omega
theorem wrap32s_mod (x : Int) : IntKind.i32.wrap x % 4294967296 = x % 4294967296 := by
  unfold IntKind.wrap
  have hb : (2 : Int) ^ IntKind.i32.bits = 4294967296 := rfl
  simp only [hb, show IntKind.i32.signed = true from rfl]
  simp
  split <;> omega
theorem wrap64s_mod (x : Int) : IntKind.i64.wrap x % 18446744073709551616 = x % 18446744073709551616 := by
  unfold IntKind.wrap
  have hb : (2 : Int) ^ IntKind.i64.bits = 18446744073709551616 := rfl
  simp only [hb, show IntKind.i64.signed = true from rfl]
  simp
  split <;> omega
theorem fixed_i16 (x : Int) : fixed (IntKind.i16.wrap x) 2 = fixed x 2 := by rw [← fixed_w2, wrap16s_mod, fixed_w2]
theorem fixed_i32 (x : Int) : fixed (IntKind.i32.wrap x) 4 = fixed x 4 := by rw [← fixed_w4, wrap32s_mod, fixed_w4]
theorem fixed_i64 (x : Int) : fixed (IntKind.i64.wrap x) 8 = fixed x 8 := by rw [← fixed_w8, wrap64s_mod, fixed_w8]
theorem fixed_u16 (x : Int) : fixed (IntKind.u16.wrap x) 2 = fixed x 2 := by rw [wrap16u, fixed_w2]
theorem fixed_u32 (x : Int) : fixed (IntKind.u32.wrap x) 4 = fixed x 4 := by rw [wrap32u, fixed_w4]
theorem fixed_u64 (x : Int) : fixed (IntKind.u64.wrap x) 8 = fixed x 8 := by rw [wrap64u, fixed_w8]
section
variable {P : Program} {ops : Array Oper} {Q : Exit → Act → World → Prop} {rest : List Oper} {n : Nat} {l : Env} {H : Fz} {L : Own}
variable {d ty : Nat} {pos : String} {af : Array Edge}
theorem src_text {tx : Nat} (s : List UInt8) (hk : P.underlying tx = some .string) : ∀ w, Hp H L w → Src P 1 tx (.string ⟨s.toArray⟩) s.length (bytesOf s) w := by
  intro w hw
  have := src_str (P := P) (H := H) (L := L) ⟨s.toArray⟩ hk w hw
  have e : byteCells ⟨s.toArray⟩ = bytesOf s := by simp [byteCells, bytesOf]
  rw [e] at this
  have e2 : (⟨s.toArray⟩ : ByteArray).size = s.length := by simp [ByteArray.size]
  rw [e2] at this
  exact this
/-- a chunk comes to the front -/
theorem tf {os : List Oper} {N : Chunk} {L' : Own} (hs : Sel L N L') (h : WL P ops Q os n l H (N :: L')) : WL P ops Q os n l H L := fun a w hA hw => h a w hA (hw.sel hs)
/-- held against nil -/
theorem esn {T T' e m c : Nat} {x : Operand} {a : Option Addr} (hu : P.underlying T = some (.slice e)) (hx : get l x = some (.slice a m c)) (hn : Nat.blt d n = true) (h : WL P ops Q rest n ((d, .bool a.isNone) :: l) H L) : WL P ops Q (⟨some d, .binOp .eql T x (.const (.slice none 0 0)) T', ty, pos, af, none⟩ :: rest) n l H L :=
  WL.vq rfl rfl hn (fun w0 w ha _ => by
    have h1 := run_equal_slice_nil (P := P) w T e a m c hu
    have h2 : Act.eval w0 (.const (.slice none 0 0)) = .slice none 0 0 := rfl
    simp [execOp, ha.get hx, h2, eqGuard, binOp, h1]) h
theorem nsn {T T' e m c : Nat} {x : Operand} {a : Option Addr} (hu : P.underlying T = some (.slice e)) (hx : get l x = some (.slice a m c)) (hn : Nat.blt d n = true) (h : WL P ops Q rest n ((d, .bool (!a.isNone)) :: l) H L) : WL P ops Q (⟨some d, .binOp .neq T x (.const (.slice none 0 0)) T', ty, pos, af, none⟩ :: rest) n l H L :=
  WL.vq rfl rfl hn (fun w0 w ha _ => by
    have h1 := run_equal_slice_nil (P := P) w T e a m c hu
    have h2 : Act.eval w0 (.const (.slice none 0 0)) = .slice none 0 0 := rfl
    simp [execOp, ha.get hx, h2, eqGuard, binOp, h1]) h
theorem epn {T T' e : Nat} {x : Operand} {p : Option Addr} (hu : P.underlying T = some (.pointer e)) (hx : get l x = some (.pointer p)) (hn : Nat.blt d n = true) (h : WL P ops Q rest n ((d, .bool p.isNone) :: l) H L) : WL P ops Q (⟨some d, .binOp .eql T x (.const (.pointer none)) T', ty, pos, af, none⟩ :: rest) n l H L :=
  WL.vq rfl rfl hn (fun w0 w ha _ => by
    have h1 := run_equal_pointer_nil (P := P) w T p (by simp [Program.pointee, hu])
    have h2 : Act.eval w0 (.const (.pointer none)) = .pointer none := rfl
    simp [execOp, ha.get hx, h2, eqGuard, binOp, h1]) h
theorem npn {T T' e : Nat} {x : Operand} {p : Option Addr} (hu : P.underlying T = some (.pointer e)) (hx : get l x = some (.pointer p)) (hn : Nat.blt d n = true) (h : WL P ops Q rest n ((d, .bool (!p.isNone)) :: l) H L) : WL P ops Q (⟨some d, .binOp .neq T x (.const (.pointer none)) T', ty, pos, af, none⟩ :: rest) n l H L :=
  WL.vq rfl rfl hn (fun w0 w ha _ => by
    have h1 := run_equal_pointer_nil (P := P) w T p (by simp [Program.pointee, hu])
    have h2 : Act.eval w0 (.const (.pointer none)) = .pointer none := rfl
    simp [execOp, ha.get hx, h2, eqGuard, binOp, h1]) h
end
end Go.Sx

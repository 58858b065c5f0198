/- Plain numbers and octets. -/
import Derived.Test.YtahmkeoedpghjabGreatSxBuild
set_option linter.unusedVariables false
set_option linter.unusedSimpArgs false
namespace Go.Sx
theorem TI.mk_run {P : Program} {t size bytes : Nat} {z : Value} {i : TypeInfo} (h : ∀ w, (typeInfo t).run P w = .ok i w) (hs : i.size = size) (hb : i.bytes = bytes) (hz : i.zero = some z) (hp : 0 < size) (hc : z.cells.size = size) : TI P t size bytes z := by
  refine ⟨?_, hp, hc⟩
  have h0 := h default
  simp only [typeInfo, Sem.run_bind, run_program, Result.andThen_ok] at h0
  cases hq : P.info? t with
  | none => rw [hq] at h0; simp at h0
  | some j =>
    rw [hq] at h0
    simp only [Sem.run_pure, Result.ok.injEq, and_true] at h0
    subst h0
    exact ⟨j, rfl, hs, hb, hz⟩

/-- The lowest octet of a number. -/
def byte (x : Int) : UInt8 := UInt8.ofNat (x % 256).toNat
theorem wrap8 (x : Int) : IntKind.u8.wrap x = ((byte x).toNat : Int) := by
  unfold IntKind.wrap byte
  have hb : (2 : Int) ^ IntKind.u8.bits = 256 := rfl
  simp only [hb, show IntKind.u8.signed = false from rfl, Bool.false_and]
  simp
  omega
theorem shr_eq {a m : Int} {b : Int} {k : IntKind} (h : (2 : Int) ^ min b.toNat k.bits = m) (hm : 0 ≤ m) : a.fdiv (2 ^ min b.toNat k.bits) = a / m := by
  rw [h]; exact Int.fdiv_eq_ediv_of_nonneg a hm
theorem w32u {x : Int} (h0 : 0 ≤ x) (h1 : x < 4294967296) : IntKind.u32.wrap x = x := by
  unfold IntKind.wrap
  have hb : (2 : Int) ^ IntKind.u32.bits = 4294967296 := rfl
  simp only [hb, show IntKind.u32.signed = false from rfl, Bool.false_and]
  simp; omega
theorem wrap32u (x : Int) : IntKind.u32.wrap x = x % 4294967296 := by
  unfold IntKind.wrap
  have hb : (2 : Int) ^ IntKind.u32.bits = 4294967296 := rfl
  simp [hb, show IntKind.u32.signed = false from rfl]
/-- Octets in a buffer of the function's own. -/
def Buf (e : Nat) (a : Option Addr) (n cap : Nat) (bs : List UInt8) (N : Chunk) : Prop := Row e 1 a n cap (bytesOf bs) N ∧ n = bs.length
theorem bytesOf_append (a b : List UInt8) : bytesOf (a ++ b) = bytesOf a ++ bytesOf b := by simp [bytesOf]
theorem bytesOf_length (a : List UInt8) : (bytesOf a).length = a.length := by simp [bytesOf]
theorem bytesOf_one (a : List UInt8) : ∀ u ∈ bytesOf a, u.oneCell' = true := by
  intro u hu
  obtain ⟨b, _, rfl⟩ := List.mem_map.1 hu
  rfl
def be32 (u : Int) : List UInt8 := [byte (u / 16777216), byte (u / 65536), byte (u / 256), byte u]
end Go.Sx

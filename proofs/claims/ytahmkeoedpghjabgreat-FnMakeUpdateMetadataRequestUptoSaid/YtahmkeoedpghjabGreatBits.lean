/- Bits of numbers. -/
import Derived.Test.YtahmkeoedpghjabGreatPureL
import Derived.Test.YtahmkeoedpghjabGreatSxDraw
set_option linter.unusedVariables false
set_option linter.unusedSimpArgs false
namespace Go.Sx
theorem wrap_u64 {x : Int} (h0 : 0 ≤ x) (h1 : x < 18446744073709551616) : IntKind.u64.wrap x = x := by
  unfold IntKind.wrap
  have hb : (2 : Int) ^ IntKind.u64.bits = 18446744073709551616 := rfl
  simp only [hb, show IntKind.u64.signed = false from rfl, Bool.false_and]
  simp; omega
theorem wrap_u8 {x : Int} (h0 : 0 ≤ x) (h1 : x < 256) : IntKind.u8.wrap x = x := by
  unfold IntKind.wrap
  have hb : (2 : Int) ^ IntKind.u8.bits = 256 := rfl
  simp only [hb, show IntKind.u8.signed = false from rfl, Bool.false_and]
  simp; omega
theorem and127_u64 (m : Nat) : IntKind.u64.wrap ((BitVec.ofInt IntKind.u64.bits (m : Int)) &&& (BitVec.ofInt IntKind.u64.bits 127)).toNat = ((m % 128 : Nat) : Int) := by
  have e : ((BitVec.ofInt 64 (m : Int)) &&& (BitVec.ofInt 64 127)).toNat = m % 128 := by
    rw [BitVec.toNat_and]
    have h1 : (BitVec.ofInt 64 (127 : Int)).toNat = 2 ^ 7 - 1 := by decide
    have h2 : (BitVec.ofInt 64 (m : Int)).toNat = m % 2 ^ 64 := by simp [BitVec.toNat_ofInt]
    rw [h1, h2, Nat.and_two_pow_sub_one_eq_mod]
    omega
  show IntKind.u64.wrap (((BitVec.ofInt 64 (m : Int)) &&& (BitVec.ofInt 64 127)).toNat : Int) = _
  rw [e, wrap_u64 (by omega) (by omega)]
theorem and127_u32 (m : Nat) : IntKind.u32.wrap ((BitVec.ofInt IntKind.u32.bits (m : Int)) &&& (BitVec.ofInt IntKind.u32.bits 127)).toNat = ((m % 128 : Nat) : Int) := by
  have e : ((BitVec.ofInt 32 (m : Int)) &&& (BitVec.ofInt 32 127)).toNat = m % 128 := by
    rw [BitVec.toNat_and]
    have h1 : (BitVec.ofInt 32 (127 : Int)).toNat = 2 ^ 7 - 1 := by decide
    have h2 : (BitVec.ofInt 32 (m : Int)).toNat = m % 2 ^ 32 := by simp [BitVec.toNat_ofInt]
    rw [h1, h2, Nat.and_two_pow_sub_one_eq_mod]
    omega
  show IntKind.u32.wrap (((BitVec.ofInt 32 (m : Int)) &&& (BitVec.ofInt 32 127)).toNat : Int) = _
  rw [e, w32u (by omega) (by omega)]
theorem or128_nat {x : Nat} (h : x < 128) : x ||| 128 = x + 128 := by
  have := Nat.two_pow_add_eq_or_of_lt (i := 7) (b := x) (by omega) 1
  simp only [Nat.mul_one] at this
  have e : (2 : Nat) ^ 7 = 128 := rfl
  rw [e] at this
  rw [Nat.or_comm]; omega
theorem or128_u8 {x : Nat} (h : x < 128) : IntKind.u8.wrap ((BitVec.ofInt IntKind.u8.bits (x : Int)) ||| (BitVec.ofInt IntKind.u8.bits 128)).toNat = (((UInt8.ofNat (x + 128)).toNat : Nat) : Int) := by
  have e : ((BitVec.ofInt 8 (x : Int)) ||| (BitVec.ofInt 8 128)).toNat = x + 128 := by
    rw [BitVec.toNat_or]
    have h1 : (BitVec.ofInt 8 (128 : Int)).toNat = 128 := by decide
    have h2 : (BitVec.ofInt 8 (x : Int)).toNat = x := by simp [BitVec.toNat_ofInt]; omega
    rw [h1, h2, or128_nat h]
  show IntKind.u8.wrap (((BitVec.ofInt 8 (x : Int)) ||| (BitVec.ofInt 8 128)).toNat : Int) = _
  rw [e, wrap_u8 (by omega) (by omega)]
  simp; omega
theorem or128_u32 {x : Nat} (h : x < 128) : IntKind.u32.wrap ((BitVec.ofInt IntKind.u32.bits (x : Int)) ||| (BitVec.ofInt IntKind.u32.bits 128)).toNat = ((x + 128 : Nat) : Int) := by
  have e : ((BitVec.ofInt 32 (x : Int)) ||| (BitVec.ofInt 32 128)).toNat = x + 128 := by
    rw [BitVec.toNat_or]
    have h1 : (BitVec.ofInt 32 (128 : Int)).toNat = 128 := by decide
    have h2 : (BitVec.ofInt 32 (x : Int)).toNat = x := by simp [BitVec.toNat_ofInt]; omega
    rw [h1, h2, or128_nat h]
  show IntKind.u32.wrap (((BitVec.ofInt 32 (x : Int)) ||| (BitVec.ofInt 32 128)).toNat : Int) = _
  rw [e, w32u (by omega) (by omega)]
theorem and1_i64 (n : Int) : IntKind.i64.wrap ((BitVec.ofInt IntKind.i64.bits n) &&& (BitVec.ofInt IntKind.i64.bits 1)).toNat = n % 2 := by
  have e : ((BitVec.ofInt 64 n) &&& (BitVec.ofInt 64 1)).toNat = (n % 2).toNat := by
    rw [BitVec.toNat_and]
    have h1 : (BitVec.ofInt 64 (1 : Int)).toNat = 2 ^ 1 - 1 := by decide
    have h2 : (BitVec.ofInt 64 n).toNat = (n % 2 ^ 64).toNat := by simp [BitVec.toNat_ofInt]
    rw [h1, h2, Nat.and_two_pow_sub_one_eq_mod]
    omega
  show IntKind.i64.wrap (((BitVec.ofInt 64 n) &&& (BitVec.ofInt 64 1)).toNat : Int) = _
  rw [e, w64 (by omega) (by omega)]; omega
theorem shr_nat {m : Nat} {b : Int} {k : IntKind} {e : Nat} (hb : min b.toNat k.bits = e) : ((m : Nat) : Int).fdiv (2 ^ min b.toNat k.bits) = ((m / 2 ^ e : Nat) : Int) := by
  rw [hb, Int.fdiv_eq_ediv_of_nonneg _ (Int.pow_nonneg (by decide))]
  simp
theorem shr_var {a b : Int} {k : IntKind} {e : Nat} (hb : b = (e : Int)) (he : e ≤ k.bits) : a.fdiv (2 ^ min b.toNat k.bits) = a / 2 ^ e := by
  subst hb
  rw [Int.fdiv_eq_ediv_of_nonneg _ (Int.pow_nonneg (by decide))]
  simp [Nat.min_eq_left he]
theorem byte_small {x : Nat} (h : x < 256) : ((byte (x : Int)).toNat : Int) = (x : Int) := by
  unfold byte; simp; omega

theorem bytesOf_nth {s : List UInt8} {j : Nat} (h : j < s.length) : nth (bytesOf s) j = some (.int .u8 (s[j].toNat : Int)) := by
  rw [nth_eq]; simp [bytesOf, h]
theorem take_eq_step {α : Type} {s t : List α} {k : Nat} (hs : k < s.length) (ht : k < t.length) (h : s.take k = t.take k) (he : s[k] = t[k]) : s.take (k + 1) = t.take (k + 1) := by
  rw [List.take_succ_eq_append_getElem hs, List.take_succ_eq_append_getElem ht, h, he]
theorem fixed_length (n : Int) : ∀ k, (fixed n k).length = k
  | 0 => rfl
  | k + 1 => by simp [fixed, fixed_length n k]
theorem fixed_get (n : Int) : ∀ size k, k < size → (fixed n size)[k]? = some (byte (n / 2 ^ (8 * (size - 1 - k))))
  | 0, k, h => by omega
  | s + 1, 0, _ => by simp [fixed]
  | s + 1, k + 1, h => by
    simp only [fixed, List.getElem?_cons_succ]
    rw [fixed_get n s k (by omega)]
    congr 5; omega
theorem fixed_take (n : Int) (size k : Nat) (h : k < size) : (fixed n size).take (k + 1) = (fixed n size).take k ++ [byte (n / 2 ^ (8 * (size - 1 - k)))] := by
  have hl : k < (fixed n size).length := by rw [fixed_length]; exact h
  rw [List.take_succ_eq_append_getElem hl]
  have := fixed_get n size k h
  rw [List.getElem?_eq_getElem hl] at this
  simp only [Option.some.injEq] at this
  rw [this]
theorem uvar_step {m : Nat} (h : 127 < m) : uvar m = UInt8.ofNat (m % 128 + 128) :: uvar (m / 128) := by rw [uvar]; simp [h]
theorem uvar_end {m : Nat} (h : m ≤ 127) : uvar m = [UInt8.ofNat m] := by rw [uvar]; simp [show ¬ m > 127 by omega]
theorem div_step {m A p : Nat} (h : m ≤ A / p) : m / 128 ≤ A / (p * 128) := by
  rw [← Nat.div_div_eq_div_mul]; exact Nat.div_le_div_right h
theorem uvar_len : ∀ (k m : Nat), m < 128 ^ (k + 1) → (uvar m).length ≤ k + 1
  | 0, m, h => by rw [uvar_end (by omega)]; simp
  | k + 1, m, h => by
    by_cases hm : 127 < m
    · rw [uvar_step hm]
      have := uvar_len k (m / 128) (by rw [Nat.pow_succ] at h; omega)
      simp; omega
    · rw [uvar_end (by omega)]; simp
end Go.Sx

/- Plain laws on numbers in groups of seven bits. -/
import Derived.Test.YtahmkeoedpghjabGreatSortL
import Derived.Lib.ItoaNum
set_option linter.unusedVariables false
set_option linter.unusedSimpArgs false
namespace Go.Sx
def uvl (n : Nat) : Nat := if n < 128 then 1 else if n < 16384 then 2 else if n < 2097152 then 3 else if n < 268435456 then 4 else 5
def uvT (b : Nat) : Nat := if b ≤ 7 then 1 else if b ≤ 14 then 2 else if b ≤ 21 then 3 else if b ≤ 28 then 4 else 5
theorem uvT_bitLen {n : Nat} (h : n < 4294967296) : Lib.bitLen n ≤ 32 ∧ uvT (Lib.bitLen n) = uvl n := by
  have h32 := Lib.bitLen_le n 32 (by omega) h
  refine ⟨h32, ?_⟩
  by_cases h0 : n = 0
  · subst h0; decide
  · obtain ⟨h1, h2, h3⟩ := Lib.bitLenAux_bounds 64 n (by omega) h0
    have e : Lib.bitLen n = Lib.bitLenAux 64 n := rfl
    rw [← e] at h1 h2 h3
    generalize Lib.bitLen n = b at *
    have lo : ∀ k, k ≤ b - 1 → 2 ^ k ≤ n := fun k hk => Nat.le_trans (Nat.pow_le_pow_right (by omega) hk) h2
    have hi : ∀ k, b ≤ k → n < 2 ^ k := fun k hk => Nat.lt_of_lt_of_le h3 (Nat.pow_le_pow_right (by omega) hk)
    unfold uvT uvl
    by_cases a1 : b ≤ 7
    · have := hi 7 a1; rw [if_pos a1, if_pos (show n < 128 by omega)]
    · have l1 := lo 7 (by omega)
      rw [if_neg a1, if_neg (show ¬ n < 128 by omega)]
      by_cases a2 : b ≤ 14
      · have := hi 14 a2; rw [if_pos a2, if_pos (show n < 16384 by omega)]
      · have l2 := lo 14 (by omega)
        rw [if_neg a2, if_neg (show ¬ n < 16384 by omega)]
        by_cases a3 : b ≤ 21
        · have := hi 21 a3; rw [if_pos a3, if_pos (show n < 2097152 by omega)]
        · have l3 := lo 21 (by omega)
          rw [if_neg a3, if_neg (show ¬ n < 2097152 by omega)]
          by_cases a4 : b ≤ 28
          · have := hi 28 a4; rw [if_pos a4, if_pos (show n < 268435456 by omega)]
          · have l4 := lo 28 (by omega)
            rw [if_neg a4, if_neg (show ¬ n < 268435456 by omega)]
theorem uvar_length {n : Nat} (h : n < 4294967296) : (uvar n).length = uvl n := by
  unfold uvl
  by_cases a1 : n < 128
  · rw [uvar_end (by omega), if_pos a1]; rfl
  · rw [if_neg a1, uvar_step (by omega)]
    by_cases a2 : n < 16384
    · rw [uvar_end (by omega), if_pos a2]; rfl
    · rw [if_neg a2, uvar_step (by omega)]
      by_cases a3 : n < 2097152
      · rw [uvar_end (by omega), if_pos a3]; rfl
      · rw [if_neg a3, uvar_step (by omega)]
        by_cases a4 : n < 268435456
        · rw [uvar_end (by omega), if_pos a4]; rfl
        · rw [if_neg a4, uvar_step (by omega), uvar_end (by omega)]; rfl
theorem byteN (m : Nat) : byte ((m : Nat) : Int) = UInt8.ofNat m := by
  apply UInt8.toNat_inj.1
  unfold byte
  simp; omega
theorem byteN128 (m : Nat) : byte ((m % 128 + 128 : Nat) : Int) = UInt8.ofNat (m % 128 + 128) := byteN _
theorem uvar1 {n : Nat} (h : n < 128) : uvar n = [byte ((n : Nat) : Int)] := by rw [uvar_end (by omega), byteN]
theorem uvar2 {n : Nat} (h0 : ¬ n < 128) (h : n < 16384) : uvar n = [byte ((n % 128 + 128 : Nat) : Int), byte ((n / 128 : Nat) : Int)] := by
  rw [uvar_step (by omega), uvar_end (by omega), byteN, byteN]
theorem uvar3 {n : Nat} (h0 : ¬ n < 16384) (h : n < 2097152) : uvar n = [byte ((n % 128 + 128 : Nat) : Int), byte ((n / 128 % 128 + 128 : Nat) : Int), byte ((n / 16384 : Nat) : Int)] := by
  rw [uvar_step (by omega), uvar_step (by omega), uvar_end (by omega), byteN, byteN, byteN, Nat.div_div_eq_div_mul]
theorem uvar4 {n : Nat} (h0 : ¬ n < 2097152) (h : n < 268435456) : uvar n = [byte ((n % 128 + 128 : Nat) : Int), byte ((n / 128 % 128 + 128 : Nat) : Int), byte ((n / 16384 % 128 + 128 : Nat) : Int), byte ((n / 2097152 : Nat) : Int)] := by
  rw [uvar_step (by omega), uvar_step (by omega), uvar_step (by omega), uvar_end (by omega), byteN, byteN, byteN, byteN]
  simp only [Nat.div_div_eq_div_mul]
theorem uvar5 {n : Nat} (h0 : ¬ n < 268435456) (h : n < 4294967296) : uvar n = [byte ((n % 128 + 128 : Nat) : Int), byte ((n / 128 % 128 + 128 : Nat) : Int), byte ((n / 16384 % 128 + 128 : Nat) : Int), byte ((n / 2097152 % 128 + 128 : Nat) : Int), byte ((n / 268435456 : Nat) : Int)] := by
  rw [uvar_step (by omega), uvar_step (by omega), uvar_step (by omega), uvar_step (by omega), uvar_end (by omega), byteN, byteN, byteN, byteN, byteN]
  simp only [Nat.div_div_eq_div_mul]
theorem uvl_1 {n : Nat} (h : (uvl n : Int) = 1) : n < 128 := by unfold uvl at h; split at h <;> (try split at h) <;> (try split at h) <;> (try split at h) <;> omega
theorem uvl_2 {n : Nat} (h : (uvl n : Int) = 2) : ¬ n < 128 ∧ n < 16384 := by unfold uvl at h; split at h <;> (try split at h) <;> (try split at h) <;> (try split at h) <;> omega
theorem uvl_3 {n : Nat} (h : (uvl n : Int) = 3) : ¬ n < 16384 ∧ n < 2097152 := by unfold uvl at h; split at h <;> (try split at h) <;> (try split at h) <;> (try split at h) <;> omega
theorem uvl_4 {n : Nat} (h : (uvl n : Int) = 4) : ¬ n < 2097152 ∧ n < 268435456 := by unfold uvl at h; split at h <;> (try split at h) <;> (try split at h) <;> (try split at h) <;> omega
theorem uvl_5 {n : Nat} (h : (uvl n : Int) = 5) : ¬ n < 268435456 := by unfold uvl at h; split at h <;> (try split at h) <;> (try split at h) <;> (try split at h) <;> omega
theorem uvl_pos (n : Nat) : 1 ≤ uvl n := by unfold uvl; split <;> (try split) <;> (try split) <;> (try split) <;> omega
theorem uvl_le (n : Nat) : uvl n ≤ 5 := by unfold uvl; split <;> (try split) <;> (try split) <;> (try split) <;> omega
theorem shrN {m : Nat} {b : Int} {k : IntKind} {q : Nat} (h : 2 ^ min b.toNat k.bits = q) : ((m : Nat) : Int).fdiv (2 ^ min b.toNat k.bits) = ((m / q : Nat) : Int) := by
  rw [shr_nat rfl, h]
section
variable {P : Program} {ops : Array Oper} {Q : Exit → Act → World → Prop} {rest : List Oper} {n : Nat} {l : Env} {H : Fz} {L : Own}
variable {d ty : Nat} {pos : String} {af : Array Edge}
/-- an octet of a text -/
theorem ixs {T : Nat} {x y : Operand} {s : ByteArray} {k : IntKind} {i : Int} {j : Nat} {b : UInt8} (hu : P.underlying T = some .string) (hx : get l x = some (.string s)) (hy : get l y = some (.int k i)) (hi : i = (j : Int)) (hj : s.data[j]? = some b) (hn : Nat.blt d n = true)
    (h : WL P ops Q rest n ((d, .int .u8 (b.toNat : Int)) :: l) H L) : WL P ops Q (⟨some d, .index T x y, ty, pos, af, none⟩ :: rest) n l H L :=
  WL.vq rfl rfl hn (fun a w hA hw => by
    subst hi
    have hlt : j < s.size := by
      rcases Nat.lt_or_ge j s.size with h' | h'
      · exact h'
      · have : s.data.size ≤ j := h'
        simp [Array.getElem?_eq_none this] at hj
    have e : s[j] = b := by
      have h2 := hj
      rw [Array.getElem?_eq_getElem (show j < s.data.size from hlt)] at h2
      exact Option.some.inj h2
    have := run_index_string (P := P) w T s k (j : Int) hu
    simp only [Int.toNat_natCast, show (0 : Int) ≤ (j : Int) by omega, show ((j : Int) < (s.size : Int)) by omega, and_self, dite_true, e] at this
    simp [execOp, hA.get hx, hA.get hy, this]) h
end
/-- a chunk comes to the front, at an end -/
theorem tfN {Q : Exit → Act → World → Prop} {n : Nat} {l : Env} {H : Fz} {L : Own} {N : Chunk} {L' : Own} (hs : Sel L N L') (h : Nn Q n l H (N :: L')) : Nn Q n l H L := fun a w hA hw => h a w hA (hw.sel hs)
theorem sortKv_length (kvs : List KV) : (sortKv kvs).length = kvs.length := by simp [sortKv, keysOf]
theorem sortKv_get {kvs : List KV} {k : Nat} (hk : k < kvs.length) : ∃ key v, (sortKv kvs)[k]? = some (key, v) ∧ lookKv kvs key = some v ∧ nth (u32s (srt (keysOf kvs))) k = some (.int .u32 key) := by
  have h1 : k < (srt (keysOf kvs)).length := by rw [srt_length]; simpa [keysOf] using hk
  have hm : (srt (keysOf kvs))[k] ∈ keysOf kvs := (srt_perm _).mem_iff.1 (List.getElem_mem h1)
  obtain ⟨v, hv⟩ := lookKv_mem hm
  have h2 : (srt (keysOf kvs))[k]? = some (srt (keysOf kvs))[k] := List.getElem?_eq_getElem h1
  refine ⟨(srt (keysOf kvs))[k], v, ?_, hv, ?_⟩
  · show ((srt (keysOf kvs)).map fun k => (k, (lookKv kvs k).getD undef))[k]? = _
    rw [List.getElem?_map, h2]; simp [hv]
  · rw [nth_eq]; simp [u32s, h2]
theorem srt_of_seen {kvs : List KV} {seen : List Nat} (h : seen.Perm (List.range kvs.length)) : srt (seen.map fun i => ((keysOf kvs)[i]?).getD 0) = srt (keysOf kvs) := sort_perm (keys_perm h)
theorem u32s_snoc (ks : List Int) (k : Int) : u32s ks ++ [.int .u32 k] = u32s (ks ++ [k]) := by simp [u32s]
theorem keysOf_get {kvs : List KV} {i : Nat} {k : Int} {v : Value} (h : kvs[i]? = some (k, v)) : ((keysOf kvs)[i]?).getD 0 = k := by simp [keysOf, h]
theorem lt_of_get {α : Type} {l : List α} {i : Nat} {x : α} (h : l[i]? = some x) : i < l.length := by
  rcases Nat.lt_or_ge i l.length with h' | h'
  · exact h'
  · simp [List.getElem?_eq_none h'] at h
/-! ### Tags behind a map -/
def tagU (p : Int × List UInt8) : List UInt8 := uvar p.1.toNat ++ uvar p.2.length ++ p.2
structure KvEl (H : Fz) (v : Value) (k : Int) (s : List UInt8) : Prop where
  val : ∃ a c, v = .slice a s.length c ∧ BytesAt H a c s
  lo : 0 ≤ k
  hi : k < 4294967296
theorem KvEl.mono {H H' : Fz} {v : Value} {k : Int} {s : List UInt8} (h : KvEl H v k s) (hle : H.le H') : KvEl H' v k s :=
  ⟨let ⟨a, c, h1, h2⟩ := h.val; ⟨a, c, h1, h2.mono hle⟩, h.lo, h.hi⟩
/-- A frozen map that says tags, here by rising numbers. -/
def KvAt (H : Fz) (m : Option Nat) (us : List (Int × List UInt8)) : Prop := ∃ kvs, MapF H m kvs ∧ kvs.length = us.length ∧ ∀ (i : Nat) k v, (sortKv kvs)[i]? = some (k, v) → ∃ s, us[i]? = some (k, s) ∧ KvEl H v k s
theorem KvAt.mono {H H' : Fz} {m : Option Nat} {us : List (Int × List UInt8)} (h : KvAt H m us) (hle : H.le H') : KvAt H' m us := by
  obtain ⟨kvs, h1, h2, h3⟩ := h
  exact ⟨kvs, h1.mono hle, h2, fun i k v hi => let ⟨s, h4, h5⟩ := h3 i k v hi; ⟨s, h4, h5.mono hle⟩⟩
theorem KvAt.nil (H : Fz) : KvAt H none [] := ⟨[], MapF.nil H, rfl, fun i k v h => by simp [sortKv, keysOf] at h⟩
theorem flatU_take {us : List (Int × List UInt8)} {i : Nat} {p : Int × List UInt8} (h : us[i]? = some p) : (us.take (i + 1)).flatMap tagU = (us.take i).flatMap tagU ++ tagU p := by
  rw [List.take_add_one, h]; simp [List.flatMap_append]
theorem flatU_le {us : List (Int × List UInt8)} {i : Nat} {p : Int × List UInt8} (h : us[i]? = some p) : ((us.take i).flatMap tagU).length + (tagU p).length ≤ (us.flatMap tagU).length := by
  have h1 := flatMap_take_le tagU us (i + 1)
  rw [flatU_take h] at h1
  simpa using h1
theorem Fn.flat {P : Program} {f : FuncId} {args : List Value} {H : Fz} {L L1 : Own} {R R1 : Value → Fz → Own → Prop} (h : Fn P f args H L1 R1) (hL : L1.flatten = L.flatten) (hR : ∀ v H' L', R1 v H' L' → ∃ L'', L''.flatten = L'.flatten ∧ R v H' L'') : Fn P f args H L R := by
  refine ⟨h.1, fun w hw => (h.2 w (hw.perm (by rw [hL]))).mono ?_⟩
  rintro e w' ⟨v, H', L', rfl, hle, hp, hr⟩
  obtain ⟨L'', h1, h2⟩ := hR v H' L' hr
  exact ⟨v, H', L'', rfl, hle, hp.perm (by rw [h1]), h2⟩
theorem mrgL {P : Program} {ops : Array Oper} {Q : Exit → Act → World → Prop} {os : List Oper} {n : Nat} {l : Env} {H : Fz} {A B : Chunk} {L : Own} (h : WL P ops Q os n l H ((A ++ B) :: L)) : WL P ops Q os n l H (A :: B :: L) := fun a w hA hw => h a w hA (hw.perm (by simp))
theorem splL {P : Program} {ops : Array Oper} {Q : Exit → Act → World → Prop} {os : List Oper} {n : Nat} {l : Env} {H : Fz} {A B : Chunk} {L : Own} (h : WL P ops Q os n l H (A :: B :: L)) : WL P ops Q os n l H ((A ++ B) :: L) := fun a w hA hw => h a w hA (hw.perm (by simp))
end Go.Sx

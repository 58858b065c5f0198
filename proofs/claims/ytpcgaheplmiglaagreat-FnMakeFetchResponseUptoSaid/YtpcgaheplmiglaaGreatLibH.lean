import Derived.Test.YtpcgaheplmiglaaGreatLibG
set_option linter.unusedVariables false
set_option linter.unusedSimpArgs false
/- What was written is read back: numbers, lengths, octets. -/
namespace Go.Sx
theorem beN_from (l : List UInt8) : ∀ a : Nat, l.foldl (fun a b => a * 256 + b.toNat) a = a * 256 ^ l.length + beN l := by
  induction l with
  | nil => intro a; simp [beN]
  | cons x l ih =>
    intro a
    have h1 := ih (a * 256 + x.toNat)
    have h2 := ih (0 * 256 + x.toNat)
    simp only [List.foldl_cons, beN, List.length_cons] at h1 h2 ⊢
    rw [h1, h2, Nat.pow_succ, Nat.add_mul, Nat.add_mul]
    have e : a * 256 * 256 ^ l.length = a * (256 ^ l.length * 256) := by rw [Nat.mul_assoc, Nat.mul_comm 256]
    omega
theorem beN_cons (x : UInt8) (l : List UInt8) : beN (x :: l) = x.toNat * 256 ^ l.length + beN l := by
  have := beN_from l (0 * 256 + x.toNat)
  simp only [Nat.zero_mul, Nat.zero_add] at this
  rw [← this]; simp [beN]
theorem byte_mod (x : Int) : ((byte x).toNat : Int) = x % 256 := by
  unfold byte
  have h0 : 0 ≤ x % 256 := Int.emod_nonneg x (by decide)
  have h1 : x % 256 < 256 := Int.emod_lt_of_pos x (by decide)
  simp; omega
theorem mod_split (n m : Int) (hm : 0 < m) : n / m % 256 * m + n % m = n % (m * 256) := by
  have h1 := Int.mul_ediv_add_emod n m
  have h2 := Int.mul_ediv_add_emod (n / m) 256
  have h3 := Int.mul_ediv_add_emod n (m * 256)
  have h4 : n / m / 256 = n / (m * 256) := Int.ediv_ediv_of_nonneg (by omega)
  rw [h4] at h2
  have h5 : n / m % 256 * m = m * (n / m) - m * 256 * (n / (m * 256)) := by
    have : n / m % 256 = n / m - 256 * (n / (m * 256)) := by omega
    rw [this, Int.sub_mul, Int.mul_comm (n / m) m, Int.mul_comm m 256, Int.mul_assoc, Int.mul_assoc, Int.mul_comm m (n / (256 * m))]
  omega
theorem beN_fixed (n : Int) : ∀ k, ((beN (fixed n k) : Nat) : Int) = n % 2 ^ (8 * k)
  | 0 => by simp [fixed, beN]
  | k + 1 => by
    rw [fixed, beN_cons, fixed_length, Int.natCast_add, Int.natCast_mul, byte_mod, beN_fixed n k]
    have e : ((256 ^ k : Nat) : Int) = 2 ^ (8 * k) := by
      rw [show (256 : Nat) = 2 ^ 8 by decide, ← Nat.pow_mul]; simp
    rw [e, show 8 * (k + 1) = 8 * k + 8 by omega, Int.pow_add, show ((2 : Int) ^ 8) = 256 by decide]
    exact mod_split n _ (Int.pow_pos (by decide))
theorem rN_app {w : Nat} {x r : List UInt8} (bad nn : Bool) (h : x.length = w) : rN w ⟨x ++ r, bad, nn⟩ = (beN x, ⟨r, bad, true⟩) := by
  unfold rN
  simp only [List.length_append]
  rw [if_neg (by omega)]
  simp [← h]
theorem rN_fixed (w : Nat) (n : Int) (r : List UInt8) (bad nn : Bool) : rN w ⟨fixed n w ++ r, bad, nn⟩ = (beN (fixed n w), ⟨r, bad, true⟩) := rN_app bad nn (fixed_length n w)
theorem byteN_nat {x : Nat} (h : x < 256) : (byte ((x : Nat) : Int)).toNat = x := by
  have := byte_small h; omega
theorem uvR_uvar {n : Nat} (h : n < 4294967296) (r : List UInt8) : uvR (uvar n ++ r) = some (n, (uvar n).length) := by
  by_cases h1 : n < 128
  · rw [uvar1 h1]; simp [uvR, byteN_nat (show n < 256 by omega), h1]
  · by_cases h2 : n < 16384
    · rw [uvar2 h1 h2]; simp only [List.cons_append, List.nil_append, uvR, byteN_nat (show n % 128 + 128 < 256 by omega), byteN_nat (show n / 128 < 256 by omega)]
      rw [if_neg (by omega), if_pos (by omega)]; simp; omega
    · by_cases h3 : n < 2097152
      · rw [uvar3 h2 h3]; simp only [List.cons_append, List.nil_append, uvR, byteN_nat (show n % 128 + 128 < 256 by omega), byteN_nat (show n / 128 % 128 + 128 < 256 by omega), byteN_nat (show n / 16384 < 256 by omega)]
        rw [if_neg (by omega), if_neg (by omega), if_pos (by omega)]; simp; omega
      · by_cases h4 : n < 268435456
        · rw [uvar4 h3 h4]; simp only [List.cons_append, List.nil_append, uvR, byteN_nat (show n % 128 + 128 < 256 by omega), byteN_nat (show n / 128 % 128 + 128 < 256 by omega), byteN_nat (show n / 16384 % 128 + 128 < 256 by omega), byteN_nat (show n / 2097152 < 256 by omega)]
          rw [if_neg (by omega), if_neg (by omega), if_neg (by omega), if_pos (by omega)]; simp; omega
        · rw [uvar5 h4 h]; simp only [List.cons_append, List.nil_append, uvR, byteN_nat (show n % 128 + 128 < 256 by omega), byteN_nat (show n / 128 % 128 + 128 < 256 by omega), byteN_nat (show n / 16384 % 128 + 128 < 256 by omega), byteN_nat (show n / 2097152 % 128 + 128 < 256 by omega), byteN_nat (show n / 268435456 < 256 by omega)]
          rw [if_neg (by omega), if_neg (by omega), if_neg (by omega), if_neg (by omega), if_pos (by omega)]; simp; omega
theorem rU_uvar {n : Nat} (h : n < 4294967296) (r : List UInt8) (bad nn : Bool) : rU ⟨uvar n ++ r, bad, nn⟩ = (n, ⟨r, bad, true⟩) := by
  unfold rU
  simp only
  rw [uvR_uvar h]
  simp
theorem rSpan_app (s r : List UInt8) (bad nn : Bool) : rSpan (s.length : Int) ⟨s ++ r, bad, nn⟩ = ((s, !nn), ⟨r, bad, nn⟩) := by
  unfold rSpan
  simp only [List.length_append]
  rw [if_neg (by omega)]
  simp
theorem wrap16_le {n : Nat} (h : n ≤ 32767) : IntKind.i16.wrap (n : Int) = n := by
  unfold IntKind.wrap
  have hb : (2 : Int) ^ IntKind.i16.bits = 65536 := rfl
  have hb' : (2 : Int) ^ (IntKind.i16.bits - 1) = 32768 := rfl
  simp only [hb, hb', show IntKind.i16.signed = true from rfl, Bool.true_and, decide_eq_true_eq]
  split <;> omega
theorem wrap32_le {n : Int} (h0 : -2147483648 ≤ n) (h : n ≤ 2147483647) : IntKind.i32.wrap n = n := by
  unfold IntKind.wrap
  have hb : (2 : Int) ^ IntKind.i32.bits = 4294967296 := rfl
  have hb' : (2 : Int) ^ (IntKind.i32.bits - 1) = 2147483648 := rfl
  simp only [hb, hb', show IntKind.i32.signed = true from rfl, Bool.true_and, decide_eq_true_eq]
  split <;> omega
theorem wrap_mod16 (n : Int) : IntKind.i16.wrap (n % 65536) = IntKind.i16.wrap n := by
  unfold IntKind.wrap
  have hb : (2 : Int) ^ IntKind.i16.bits = 65536 := rfl
  simp only [hb, Int.emod_emod_of_dvd n (Int.dvd_refl 65536)]
theorem wrap_mod32 (n : Int) : IntKind.i32.wrap (n % 4294967296) = IntKind.i32.wrap n := by
  unfold IntKind.wrap
  have hb : (2 : Int) ^ IntKind.i32.bits = 4294967296 := rfl
  simp only [hb, Int.emod_emod_of_dvd n (Int.dvd_refl 4294967296)]
theorem wrap_mod8 (n : Int) : IntKind.i8.wrap (n % 256) = IntKind.i8.wrap n := by
  unfold IntKind.wrap
  have hb : (2 : Int) ^ IntKind.i8.bits = 256 := rfl
  simp only [hb, Int.emod_emod_of_dvd n (Int.dvd_refl 256)]
theorem wrap_mod64 (n : Int) : IntKind.i64.wrap (n % 18446744073709551616) = IntKind.i64.wrap n := by
  unfold IntKind.wrap
  have hb : (2 : Int) ^ IntKind.i64.bits = 18446744073709551616 := rfl
  simp only [hb, Int.emod_emod_of_dvd n (Int.dvd_refl 18446744073709551616)]
theorem back16 (n : Int) : IntKind.i16.wrap (beN (fixed n 2) : Nat) = IntKind.i16.wrap n := by rw [beN_fixed]; exact wrap_mod16 n
theorem back32 (n : Int) : IntKind.i32.wrap (beN (fixed n 4) : Nat) = IntKind.i32.wrap n := by rw [beN_fixed]; exact wrap_mod32 n
theorem back8 (n : Int) : IntKind.i8.wrap (beN (fixed n 1) : Nat) = IntKind.i8.wrap n := by rw [beN_fixed]; exact wrap_mod8 n
theorem back64 (n : Int) : IntKind.i64.wrap (beN (fixed n 8) : Nat) = IntKind.i64.wrap n := by rw [beN_fixed]; exact wrap_mod64 n
theorem backU16 (n : Int) : ((beN (fixed n 2) : Nat) : Int) = IntKind.u16.wrap n := by rw [beN_fixed, wrap16u]; rfl
/-- A length ahead of something. -/
theorem rLen_counted {flex nul : Bool} {n w : Nat} (hn : n ≤ 32767) (hw : w = 2 ∨ w = 4) (r : List UInt8) (bad nn : Bool) : rLen flex w ⟨counted flex nul n w ++ r, bad, nn⟩ = (if nul then -1 else (n : Int), ⟨r, bad, true⟩) := by
  unfold rLen counted
  cases flex with
  | true =>
    cases nul with
    | true =>
      have h := rU_uvar (n := 0) (by decide) r bad nn
      rw [uvar0] at h
      simp only [Bool.and_self, if_true, h]
      rfl
    | false =>
      have h := rU_uvar (n := n + 1) (by omega) r bad nn
      simp [h]
  | false =>
    cases nul with
    | true =>
      simp only [Bool.false_and, Bool.false_eq_true, if_false, if_true]
      rcases hw with rfl | rfl
      · rw [rN_fixed]; simp only [if_true]; rw [back16]; rfl
      · rw [rN_fixed, if_neg (by decide)]; simp only; rw [back32]; rfl
    | false =>
      simp only [Bool.false_and, Bool.false_eq_true, if_false]
      rcases hw with rfl | rfl
      · rw [rN_fixed]; simp only [if_true]; rw [back16, wrap16_le hn]
      · rw [rN_fixed, if_neg (by decide)]; simp only; rw [back32, wrap32_le (by omega) (by omega)]
theorem rArr_counted {flex nul : Bool} {n : Nat} (hn : n ≤ 32767) (r : List UInt8) (hr : nul = false → n ≤ r.length) (bad nn : Bool) : rArr flex ⟨counted flex nul n 4 ++ r, bad, nn⟩ = (if nul then -1 else (n : Int), ⟨r, bad, true⟩) := by
  unfold rArr counted
  cases flex with
  | true =>
    cases nul with
    | true =>
      have h := rU_uvar (n := 0) (by decide) r bad nn
      rw [uvar0] at h
      simp only [Bool.true_and, if_true, h]
      rw [show IntKind.i32.wrap (IntKind.i32.wrap ((0 : Nat) : Int) - 1) = -1 from rfl, if_neg (by omega)]
    | false =>
      have h := rU_uvar (n := n + 1) (by omega) r bad nn
      have := hr rfl
      simp only [Bool.and_false, Bool.false_eq_true, if_false, if_true, h]
      rw [wrap32_le (n := ((n + 1 : Nat) : Int)) (by omega) (by omega), wrap32_le (by omega) (by omega), if_neg (by omega)]
      congr 1; omega
  | false =>
    cases nul with
    | true =>
      simp only [Bool.false_and, Bool.false_eq_true, if_false, if_true, rN_fixed]
      rw [back32, show IntKind.i32.wrap (-1) = -1 from rfl, if_neg (by omega)]
    | false =>
      have := hr rfl
      simp only [Bool.false_and, Bool.false_eq_true, if_false, rN_fixed]
      rw [back32, wrap32_le (by omega) (by omega), if_neg (by omega)]
end Go.Sx
/- Unknown tags that are read into a map; a row of zeros that is appended; less and less is left. -/
namespace Go.Sx
/-! ### Tags into a map -/
theorem lookKv_put (k k' : Int) (v : Value) : ∀ kvs : List KV, lookKv (putKv kvs k v) k' = if k' = k then some v else lookKv kvs k'
  | [] => by
    simp only [putKv, lookKv]
    by_cases h : k' = k
    · rw [if_pos h.symm, if_pos h]
    · rw [if_neg (fun e => h e.symm), if_neg h]
  | p :: r => by
    simp only [putKv]
    by_cases hp : p.1 = k
    · rw [if_pos hp]; simp only [lookKv]
      by_cases h : k' = k
      · rw [if_pos h.symm, if_pos h]
      · rw [if_neg (fun e => h e.symm), if_neg h, if_neg (by rw [hp]; exact fun e => h e.symm)]
    · rw [if_neg hp]; simp only [lookKv]
      by_cases h1 : p.1 = k'
      · rw [if_pos h1, if_neg (by rw [← h1]; exact hp), if_pos h1]
      · rw [if_neg h1, lookKv_put k k' v r, if_neg h1]
theorem keysOf_cons (p : KV) (r : List KV) : keysOf (p :: r) = p.1 :: keysOf r := rfl
theorem keysOf_put (k : Int) (v : Value) : ∀ kvs : List KV, keysOf (putKv kvs k v) = if k ∈ keysOf kvs then keysOf kvs else keysOf kvs ++ [k]
  | [] => by simp [putKv, keysOf]
  | p :: r => by
    simp only [putKv]
    by_cases hp : p.1 = k
    · rw [if_pos hp, if_pos (by simp [keysOf, hp])]; simp [keysOf, hp]
    · rw [if_neg hp]
      have ih := keysOf_put k v r
      have hk : ¬ k = p.1 := fun e => hp e.symm
      rw [keysOf_cons, keysOf_cons, ih]
      by_cases hm : k ∈ keysOf r
      · rw [if_pos hm, if_pos (List.mem_cons_of_mem _ hm)]
      · rw [if_neg hm, if_neg (fun h => (List.mem_cons.1 h).elim hk hm)]; rfl
theorem setTag_keys (k : Int) (s : List UInt8) : ∀ us : List (Int × List UInt8), ((setTag k s us).map (·.1)).Perm (if k ∈ us.map (·.1) then us.map (·.1) else us.map (·.1) ++ [k]) ∨ ¬ SortedU us
  | [] => .inl (by simp [setTag])
  | (k', s') :: r => by
    by_cases hs : SortedU ((k', s') :: r)
    · obtain ⟨h1, h2⟩ := List.pairwise_cons.1 hs
      simp only [setTag]
      by_cases hlt : k' < k
      · rw [if_pos hlt]
        rcases setTag_keys k s r with h | h
        · refine .inl ?_
          simp only [List.map_cons, List.mem_cons]
          have hk : ¬ k = k' := by omega
          by_cases hm : k ∈ r.map (·.1)
          · rw [if_pos hm] at h; rw [if_pos (Or.inr hm)]; exact h.cons _
          · rw [if_neg hm] at h; rw [if_neg (fun h => h.elim hk hm)]; exact h.cons _
        · exact absurd h2 h
      · rw [if_neg hlt]
        by_cases he : k' = k
        · subst he; rw [if_pos rfl]; exact .inl (by simp)
        · rw [if_neg he]
          refine .inl ?_
          have hn : ¬ k ∈ List.map (·.1) ((k', s') :: r) := by
            intro hm
            simp only [List.map_cons, List.mem_cons] at hm
            rcases hm with h | h
            · omega
            · obtain ⟨q, hq, rfl⟩ := List.mem_map.1 h
              have := h1 q hq; omega
          rw [if_neg hn]
          simp only [List.map_cons]
          exact (List.perm_append_singleton k (k' :: r.map (·.1))).symm
    · exact .inr hs
theorem mem_setTag {k : Int} {s : List UInt8} {p : Int × List UInt8} : ∀ {us : List (Int × List UInt8)}, SortedU us → p ∈ setTag k s us → p = (k, s) ∨ (p ∈ us ∧ p.1 ≠ k)
  | [], _, h => by simp [setTag] at h; exact .inl h
  | (k', s') :: r, hs, h => by
    obtain ⟨h1, h2⟩ := List.pairwise_cons.1 hs
    simp only [setTag] at h
    split at h
    · rename_i hlt
      rcases List.mem_cons.1 h with rfl | h
      · exact .inr ⟨List.mem_cons_self, by show k' ≠ k; omega⟩
      · rcases mem_setTag h2 h with h | ⟨h3, h4⟩
        · exact .inl h
        · exact .inr ⟨List.mem_cons_of_mem _ h3, h4⟩
    · rename_i hlt
      split at h
      · rename_i he
        rcases List.mem_cons.1 h with h | h
        · exact .inl h
        · exact .inr ⟨List.mem_cons_of_mem _ h, by have := h1 p h; simp only at this; omega⟩
      · rename_i he
        rcases List.mem_cons.1 h with h | h
        · exact .inl h
        · refine .inr ⟨h, ?_⟩
          rcases List.mem_cons.1 h with rfl | h
          · exact he
          · have := h1 p h; simp only at this; omega
theorem setTag_sorted {k : Int} {s : List UInt8} : ∀ {us : List (Int × List UInt8)}, SortedU us → SortedU (setTag k s us)
  | [], _ => by simp [setTag, SortedU]
  | (k', s') :: r, hs => by
    obtain ⟨h1, h2⟩ := List.pairwise_cons.1 hs
    simp only [setTag]
    split
    · refine List.pairwise_cons.2 ⟨fun p hp => ?_, setTag_sorted h2⟩
      rcases mem_setTag h2 hp with rfl | ⟨hp, _⟩
      · assumption
      · exact h1 p hp
    · split
      · rename_i he; subst he; exact List.pairwise_cons.2 ⟨h1, h2⟩
      · refine List.pairwise_cons.2 ⟨fun p hp => ?_, hs⟩
        rcases List.mem_cons.1 hp with rfl | hp
        · show k < k'; omega
        · have := h1 p hp; simp only at this ⊢; omega
/-- A map that says tags, in whatever order they came. -/
structure KvSet (H : Fz) (us : List (Int × List UInt8)) (kvs : List KV) : Prop where
  keys : (keysOf kvs).Perm (us.map (·.1))
  sorted : SortedU us
  val : ∀ p ∈ us, ∃ v, lookKv kvs p.1 = some v ∧ KvEl H v p.1 p.2
theorem KvSet.nil (H : Fz) : KvSet H [] [] := ⟨.refl _, by simp [SortedU], fun p hp => by cases hp⟩
theorem KvSet.mono {H H' : Fz} {us : List (Int × List UInt8)} {kvs : List KV} (h : KvSet H us kvs) (hle : H.le H') : KvSet H' us kvs :=
  ⟨h.keys, h.sorted, fun p hp => let ⟨v, h1, h2⟩ := h.val p hp; ⟨v, h1, h2.mono hle⟩⟩
theorem KvSet.put {H : Fz} {us : List (Int × List UInt8)} {kvs : List KV} {k : Int} {s : List UInt8} {v : Value} (h : KvSet H us kvs) (hv : KvEl H v k s) : KvSet H (setTag k s us) (putKv kvs k v) := by
  refine ⟨?_, setTag_sorted h.sorted, fun p hp => ?_⟩
  · rcases setTag_keys k s us with h1 | h1
    · refine .trans ?_ h1.symm
      rw [keysOf_put]
      by_cases hm : k ∈ keysOf kvs
      · rw [if_pos hm, if_pos (h.keys.mem_iff.1 hm)]; exact h.keys
      · rw [if_neg hm, if_neg (fun h2 => hm (h.keys.mem_iff.2 h2))]; exact h.keys.append_right _
    · exact absurd h.sorted h1
  · rw [lookKv_put]
    rcases mem_setTag h.sorted hp with rfl | ⟨h1, h2⟩
    · exact ⟨v, by rw [if_pos rfl], hv⟩
    · rw [if_neg h2]; exact h.val p h1
theorem KvSet.at_ {H : Fz} {us : List (Int × List UInt8)} {kvs : List KV} {m : Option Nat} (h : KvSet H us kvs) (hm : MapF H m kvs) : KvAt H m us := by
  have hks : (us.map (·.1)).Pairwise (· < ·) := by rw [List.pairwise_map]; exact h.sorted
  have e : sortKv kvs = (us.map (·.1)).map fun k => (k, (lookKv kvs k).getD undef) := by
    unfold sortKv
    have := sort_perm h.keys
    unfold srt at this
    rw [this, sort_sorted hks]
  refine ⟨kvs, hm, by have := h.keys.length_eq; simpa [keysOf] using this, fun i k v hi => ?_⟩
  rw [e, List.getElem?_map, List.getElem?_map] at hi
  cases hq : us[i]? with
  | none => rw [hq] at hi; cases hi
  | some p =>
    rw [hq] at hi
    simp only [Option.map_some, Option.some.injEq, Prod.mk.injEq] at hi
    obtain ⟨rfl, rfl⟩ := hi
    obtain ⟨v', h1, h2⟩ := h.val p (List.mem_of_getElem? hq)
    exact ⟨p.2, rfl, by rw [h1]; exact h2⟩
/-- One tag more. -/
def tagStep (y : List (Int × List UInt8) × Rd) : List (Int × List UInt8) × Rd := (setTag (rU y.2).1 (rSpan (rU (rU y.2).2).1 (rU (rU y.2).2).2).1.1 y.1, (rSpan (rU (rU y.2).2).1 (rU (rU y.2).2).2).2)
theorem rTagsN_succ : ∀ (n : Nat) (acc : List (Int × List UInt8)) (r : Rd), rTagsN (n + 1) acc r = tagStep (rTagsN n acc r)
  | 0, acc, r => rfl
  | n + 1, acc, r => by rw [rTagsN]; exact rTagsN_succ n _ _
/-! ### Less is left -/
theorem rMany_shr {d : Rd → Tr × Rd} (hd : ∀ r, (d r).2.s.length ≤ r.s.length) : ∀ (n : Nat) (r : Rd), (rMany d n r).2.s.length ≤ r.s.length
  | 0, r => Nat.le_refl _
  | n + 1, r => Nat.le_trans (rMany_shr hd n (d r).2) (hd r)
theorem rTagsN_shr : ∀ (n : Nat) (acc : List (Int × List UInt8)) (r : Rd), (rTagsN n acc r).2.s.length ≤ r.s.length
  | 0, acc, r => Nat.le_refl _
  | n + 1, acc, r => Nat.le_trans (rTagsN_shr n _ _) (Nat.le_trans (rSpan_len _ _) (Nat.le_trans (rU_len _) (rU_len _)))
theorem rTags_shr (r : Rd) : (rTags r).2.s.length ≤ r.s.length := Nat.le_trans (rTagsN_shr _ _ _) (rU_len r)
theorem tailU_shr (flex : Bool) (r : Rd) : (tailU flex r).2.s.length ≤ r.s.length := by
  unfold tailU; split
  · exact rTags_shr r
  · exact Nat.le_refl _
theorem decV_shr {kind : Int} {part : Rd → Tr × Rd} {nul flex : Bool} (hp : ∀ r, (part r).2.s.length ≤ r.s.length) (r : Rd) : (decV kind part nul flex r).2.s.length ≤ r.s.length := by
  unfold decV
  simp only
  repeat' split
  all_goals first | exact rN_len _ r | exact rSpan_len _ r | exact rLen_len _ _ r | exact Nat.le_trans (rSpan_len _ _) (rLen_len _ _ r) | exact hp r
theorem decF'_shr {f : Fd} {part : Rd → Tr × Rd} {v : Int} {flex : Bool} (hp : ∀ r, (part r).2.s.length ≤ r.s.length) (r : Rd) : (decF' f part v flex r).2.s.length ≤ r.s.length := by
  unfold decF'
  split
  · exact Nat.le_trans (rMany_shr (fun r => decV_shr hp r) _ _) (rArr_len flex r)
  · exact decV_shr hp r
mutual
theorem decF_shr : ∀ (f : Fd) (v : Int) (flex : Bool) (r : Rd), (decF f v flex r).2.s.length ≤ r.s.length
  | .mk kind frm to nul tag df of sub, v, flex, r => by
    rw [decF]
    refine decF'_shr (fun r => ?_) r
    exact Nat.le_trans (tailU_shr flex _) (decFs_shr sub v flex r)
theorem decFs_shr : ∀ (fs : List Fd) (v : Int) (flex : Bool) (r : Rd), (decFs fs v flex r).2.s.length ≤ r.s.length
  | [], _, _, r => by rw [decFs]; exact Nat.le_refl _
  | f :: rest, v, flex, r => by
    rw [decFs]
    refine Nat.le_trans (decFs_shr rest v flex _) ?_
    split
    · exact decF_shr f v flex r
    · exact Nat.le_refl _
end
theorem stepF_shr (f : Fd) (v : Int) (flex : Bool) (r : Rd) : (stepF f v flex r).2.s.length ≤ r.s.length := by
  unfold stepF; split
  · exact decF_shr f v flex r
  · exact Nat.le_refl _
theorem decP_shr (fs : List Fd) (v : Int) (flex : Bool) (r : Rd) : (decP fs v flex r).2.s.length ≤ r.s.length := Nat.le_trans (tailU_shr flex _) (decFs_shr fs v flex r)
/-! ### A row of zeros -/
theorem zeroCells_eq {z : Value} {zs : List Value} (hz : z.cells = zs.toArray) (hp : 0 < zs.length) (m : Nat) : Builtin.zeroCells z.cells m = (reps zs m).toArray := by
  have := range_reps zs hp m
  rw [hz]
  unfold Builtin.zeroCells
  simpa using this
theorem reps_add (zs : List Value) : ∀ a b, reps zs a ++ reps zs b = reps zs (a + b)
  | 0, b => by simp [reps]
  | a + 1, b => by rw [show a + 1 + b = (a + b) + 1 by omega]; simp only [reps, List.append_assoc]; rw [reps_add zs a b]
section
variable {P : Program} {ops : Array Oper} {Q : Exit → Act → World → Prop} {rest : List Oper} {n : Nat} {l : Env} {H : Fz} {L : Own}
variable {d ty : Nat} {pos : String} {af : Array Edge}
theorem run_append_zeros {t tn ty e size bytes : Nat} {kn : IntKind} {z : Value} {zs : List Value} {a : Option Addr} {m : Nat} {w : World}
    (ht : P.underlying t = some (.slice e)) (htn : P.underlying tn = some (.int kn)) (hi : TI P e size bytes z) (hz : z.cells = zs.toArray) (h0 : 0 < m) (hb : m * bytes ≤ 140737488355328) (h63 : m ≤ maxLen) :
    (Builtin.append_ #[t, tn] ty #[.slice a 0 0, .int kn (m : Int)]).run P w = .ok (.slice (some ⟨w.heap.size, 0, none⟩) m (grownCap w m 0 e)) (w.drew.alloc (.cells (reps zs (grownCap w m 0 e)).toArray e)) := by
  obtain ⟨i, hii, hsz, hby, hzz⟩ := hi.ex
  have hl : zs.length = size := by have := hi.zc; rw [hz] at this; simpa using this
  have hsm : m ≤ 9223372036854775807 := by simp only [maxLen] at h63; omega
  have hw : IntKind.i64.wrap (m : Int) = m := w64 (by omega) (by omega)
  have h48 : ¬ (281474976710656 < Builtin.nextslicecap m 0 * i.bytes) := by have := growslice_fits (need := m) (old := 0) (bytes := bytes) h0 hb; rw [hby]; omega
  have h48i : ¬ (281474976710656 < (m : Int) * (i.bytes : Int)) := by
    rw [← Int.natCast_mul, hby]; omega
  have h63' : ¬ (9223372036854775807 < (m : Int)) := by omega
  have hneg : ¬ ((m : Int) < 0) := by omega
  have hm0 : ¬ m = 0 := by omega
  have hs0 : ¬ size = 0 := by have := hi.pos; omega
  have hge := grownCap_ge w m 0 e
  have hfc : (Builtin.firstCells size 0 (.slice a 0 0)).run P w.drew = .ok #[] w.drew := by
    cases a <;> simp [Builtin.firstCells, loadCells, loadCellsFrom]
  have hrep : (reps zs m ++ reps zs (grownCap w m 0 e - m)) = reps zs (grownCap w m 0 e) := by rw [reps_add]; congr 1; omega
  have hzc := fun q => zeroCells_eq hz (by rw [hl]; exact hi.pos) q
  simp only [grownCap] at hge hrep
  have hms : ¬ m * size = 0 := fun h => (Nat.mul_eq_zero.1 h).elim hm0 hs0
  simp [Builtin.append_, run_underlying ht, run_underlying htn, asInt, asIntOf, hw, hneg, typeInfo, hii, h48i, sizeOf, hsz, hm0, hs0, h48, h63', Question.forced, hfc, zeroValue, hzz, hzc, newRow, grownCap, hrep]
  intro hh; exact absurd hh hms
/-- 'append(a, make([]T, m)...)', a without things -/
theorem apz {t tn e size bytes m : Nat} {kn : IntKind} {z : Value} {zs : List Value} {x y : Operand} {a : Option Addr} {i : Int}
    (ht : P.underlying t = some (.slice e)) (htn : P.underlying tn = some (.int kn)) (hi : TI P e size bytes z) (hz : z.cells = zs.toArray) (hx : get l x = some (.slice a 0 0)) (hy : get l y = some (.int kn i)) (hm : i = (m : Int)) (h0 : 0 < m) (hb : m * bytes ≤ 140737488355328) (h63 : m ≤ maxLen) (hn : Nat.blt d n = true)
    (h : ∀ g cap' N', Row e size (some ⟨g, 0, none⟩) m cap' (reps zs m) N' → WL P ops Q rest n ((d, .slice (some ⟨g, 0, none⟩) m cap') :: l) H (N' :: L)) :
    WL P ops Q (⟨some d, .call { callee := .builtin .append, args := #[x, y], argTypes := #[t, tn] }, ty, pos, af, none⟩ :: rest) n l H L :=
  WL.vw rfl rfl hn (fun w0 w hA hw => by
    subst hm
    have hr := run_append_zeros (P := P) (ty := ty) (a := a) (w := w) ht htn hi hz h0 hb h63
    have hl : zs.length = size := by have := hi.zc; rw [hz] at this; simpa using this
    have hge := grownCap_ge w m 0 e
    refine ⟨_, _, H, [(w.heap.size, .cells (reps zs (grownCap w m 0 e)).toArray e (0, 0))] :: L, by simp [execOp, resolve, invoke, builtin, hA.get hx, hA.get hy, hr], hw.drew.alloc _, h w.heap.size _ _ ⟨?_, .inr ⟨w.heap.size, _, rfl, rfl, hge, grownCap_le_maxLen w m 0 e h63, ?_, ?_⟩⟩⟩
    · rw [reps_length, hl]
    · simp [reps_length, hl]
    · simp only []
      rw [← hl]; exact reps_take zs m _ hge)
end
end Go.Sx
/- A message that is read: its end; elements of rows by numbers of any kind; lists. -/
namespace Go.Sx
/-- How a reading ends: it ran out, or the struct says what was read. -/
def RdEnd (H : Fz) (R : Fz → Tr → List Value → Prop) (d : Tr × Rd) (e r : Value) (cs : List Value) : Prop := (d.2.bad = true ∧ r = e) ∨ (d.2.bad = false ∧ r = .nilIface ∧ R H d.1 cs)
theorem RdEnd.of {H : Fz} {R : Fz → Tr → List Value → Prop} {d : Tr × Rd} {e : Value} {cs : List Value} (h : R H d.1 cs) : RdEnd H R d e (bif d.2.bad then e else .nilIface) cs := by
  cases hb : d.2.bad with
  | true => exact .inl ⟨hb, rfl⟩
  | false => exact .inr ⟨hb, rfl, h⟩
theorem RdEnd.out {H : Fz} {R : Fz → Tr → List Value → Prop} {d : Tr × Rd} {e : Value} {cs : List Value} {b : Bool} (h : d.2.bad = true) (hb : b = true) : RdEnd H R d e (bif b then e else .nilIface) cs := by
  subst hb; exact .inl ⟨h, rfl⟩
theorem decF'_val {f : Fd} {part : Rd → Tr × Rd} {v : Int} {flex : Bool} {r : Rd} {b : Bool} (h : f.kind ≠ 11) (hb : (decide (0 ≤ f.nul) && decide (f.nul ≤ v)) = b) : decF' f part v flex r = decV f.kind part b flex r := by
  unfold decF'; rw [if_neg h, hb]
theorem decF'_list {f : Fd} {part : Rd → Tr × Rd} {v : Int} {flex : Bool} {r : Rd} {b : Bool} (h : f.kind = 11) (hb : (if 0 ≤ f.nul ∧ (v < f.nul ∨ (rArr flex r).1 = 0) then false else decide ((rArr flex r).1 ≤ 0)) = b) :
    decF' f part v flex r = (.mk 0 [] b (rMany (decV f.of part false flex) (rArr flex r).1.toNat (rArr flex r).2).1 [], (rMany (decV f.of part false flex) (rArr flex r).1.toNat (rArr flex r).2).2) := by
  unfold decF'; rw [if_pos h]; simp only []; rw [hb]
theorem lT_many {b : Bool} {d : Rd → Tr × Rd} {l : Int} {r : Rd} (h : b = true → l ≤ 0) : (lT (.mk 0 [] b (rMany d l.toNat r).1 [])).length = l.toNat := by
  cases b with
  | false => rw [lT_not rfl]; exact rMany_len d _ r
  | true => rw [lT_nul rfl]; have := h rfl; simp; omega
theorem nul_le {fn v l : Int} : (if 0 ≤ fn ∧ (v < fn ∨ l = 0) then false else decide (l ≤ 0)) = true → l ≤ 0 := by
  split
  · intro h; cases h
  · intro h; simpa using h
theorem Row.next {e size : Nat} {a : Option Addr} {n cap k : Nat} {pre zs : List Value} {N : Chunk} (h : Row e size a n cap (pre ++ reps zs (n - k)) N) (hk : k < n) (hz : zs.length = size) (hs : 0 < size) :
    ∃ g post, a = some ⟨g, 0, none⟩ ∧ N = [(g, .cells (pre ++ zs ++ post).toArray e (0, 0))] ∧ ∀ cs' : List Value, cs'.length = size → Row e size a n cap (pre ++ cs' ++ reps zs (n - (k + 1))) [(g, .cells (pre ++ cs' ++ post).toArray e (0, 0))] := by
  rw [show n - k = (n - (k + 1)) + 1 by omega] at h
  simp only [reps, ← List.append_assoc] at h
  exact h.split hz hs
theorem els_len {size : Nat} {es : List (KE size)} {d : Rd → Tr × Rd} {k : Nat} {r : Rd} (h : es.map (·.2) = (rMany d k r).1) : es.length = k := by
  have := congrArg List.length h
  simpa [rMany_len] using this
theorem els_flat {size : Nat} {es : List (KE size)} {k : Nat} (h : es.length = k) : (es.flatMap fk).length = k * size := by rw [flatMap_len fk size fk_len, h]
theorem all_one {cs : List Value} (h : cs.all (fun u => u.oneCell') = true) : ∀ u ∈ cs, u.oneCell' = true := List.all_eq_true.1 h
section
variable {P : Program} {ops : Array Oper} {Q : Exit → Act → World → Prop} {rest : List Oper} {n : Nat} {l : Env} {H : Fz} {L : Own}
variable {d ty : Nat} {pos : String} {af : Array Edge}
theorem ixk {T e sz b off m c : Nat} {ad : Option Addr} {x y : Operand} {j : Nat} {i : Int} {k : IntKind} (ht : ∀ w, (underlying T).run P w = .ok (.slice e) w) (hz : ∀ w, (sizeOf e).run P w = .ok sz w) (hx : get l x = some (.slice ad m c)) (had : ad = some ⟨b, off, none⟩) (hy : get l y = some (.int k i)) (hi : i = (j : Int)) (hj : j < m) (hn : Nat.blt d n = true) (h : WL P ops Q rest n ((d, .pointer (some ⟨b, off + j * sz, none⟩)) :: l) H L) : WL P ops Q (⟨some d, .indexAddr T x y, ty, pos, af, none⟩ :: rest) n l H L := by
  subst had
  refine WL.vq rfl rfl hn (fun a w hA _ => ?_) h
  subst hi
  simp [execOp, hA.get hx, hA.get hy, Instr.indexAt, asIntOf, ht, hz, hj, add_plain]
end
theorem TextAt.dfl {H : Fz} {n : Int} {s : List UInt8} {l : List Tr} {u : List (Int × List UInt8)} : TextAt H (.mk n s true l u) none := ⟨rfl, fun ad h => by cases h⟩
theorem OctAt.dfl {H : Fz} {n : Int} {s : List UInt8} {l : List Tr} {u : List (Int × List UInt8)} : OctAt H (.mk n s true l u) none 0 := ⟨.nil _, rfl⟩
theorem wrap8_idem (x : Int) : IntKind.i8.wrap (IntKind.i8.wrap x) = IntKind.i8.wrap x := by
  unfold IntKind.wrap
  have hb : (2 : Int) ^ IntKind.i8.bits = 256 := rfl
  have hb' : (2 : Int) ^ (IntKind.i8.bits - 1) = 128 := rfl
  simp only [hb, hb', show IntKind.i8.signed = true from rfl, Bool.true_and, decide_eq_true_eq]
  split <;> split <;> omega
theorem wrap16_idem (x : Int) : IntKind.i16.wrap (IntKind.i16.wrap x) = IntKind.i16.wrap x := by
  unfold IntKind.wrap
  have hb : (2 : Int) ^ IntKind.i16.bits = 65536 := rfl
  have hb' : (2 : Int) ^ (IntKind.i16.bits - 1) = 32768 := rfl
  simp only [hb, hb', show IntKind.i16.signed = true from rfl, Bool.true_and, decide_eq_true_eq]
  split <;> split <;> omega
theorem wrap32_idem (x : Int) : IntKind.i32.wrap (IntKind.i32.wrap x) = IntKind.i32.wrap x := by
  unfold IntKind.wrap
  have hb : (2 : Int) ^ IntKind.i32.bits = 4294967296 := rfl
  have hb' : (2 : Int) ^ (IntKind.i32.bits - 1) = 2147483648 := rfl
  simp only [hb, hb', show IntKind.i32.signed = true from rfl, Bool.true_and, decide_eq_true_eq]
  split <;> split <;> omega
theorem rN_lt (w : Nat) (r : Rd) : (rN w r).1 < 256 ^ w := by
  unfold rN
  split
  · exact Nat.pow_pos (by decide)
  · rename_i h
    have : ∀ l : List UInt8, beN l < 256 ^ l.length := by
      intro l
      induction l with
      | nil => simp [beN]
      | cons x l ih =>
        rw [beN_cons, List.length_cons, Nat.pow_succ]
        have := x.toNat_lt
        have h2 : x.toNat * 256 ^ l.length ≤ 255 * 256 ^ l.length := Nat.mul_le_mul_right _ (by omega)
        omega
    have h2 := this (r.s.take w)
    rw [List.length_take, Nat.min_eq_left (by omega)] at h2
    exact h2
end Go.Sx

import Derived.Test.YtpcgaheplmiglaaGreatLibB
import Derived.Test.YtpcgaheplmiglaaGreatSxDraw
import Derived.Laws.MakeOwn
import Derived.Laws.IdiomCopy
set_option linter.unusedVariables false
set_option linter.unusedSimpArgs false
/- Bits of numbers. -/
namespace Go.Sx
theorem wrap_u64 {x : Int} (h0 : 0 ≤ x) (h1 : x < 18446744073709551616) : IntKind.u64.wrap x = x := by
  unfold IntKind.wrap
  have hb : (2 : Int) ^ IntKind.u64.bits = 18446744073709551616 := rfl
  simp only [hb, show IntKind.u64.signed = false from rfl, Bool.false_and]
  simp; omega
theorem wrap_u8 {x : Int} (h0 : 0 ≤ x) (h1 : x < 256) : IntKind.u8.wrap x = x := by
  unfold IntKind.wrap
  have hb : (2 : Int) ^ IntKind.u8.bits = 256 := rfl
  simp only [hb, show IntKind.u8.signed = false from rfl, Bool.false_and]
  simp; omega
theorem and127_u64 (m : Nat) : IntKind.u64.wrap ((BitVec.ofInt IntKind.u64.bits (m : Int)) &&& (BitVec.ofInt IntKind.u64.bits 127)).toNat = ((m % 128 : Nat) : Int) := by
  have e : ((BitVec.ofInt 64 (m : Int)) &&& (BitVec.ofInt 64 127)).toNat = m % 128 := by
    rw [BitVec.toNat_and]
    have h1 : (BitVec.ofInt 64 (127 : Int)).toNat = 2 ^ 7 - 1 := by decide
    have h2 : (BitVec.ofInt 64 (m : Int)).toNat = m % 2 ^ 64 := by simp [BitVec.toNat_ofInt]
    rw [h1, h2, Nat.and_two_pow_sub_one_eq_mod]
    omega
  show IntKind.u64.wrap (((BitVec.ofInt 64 (m : Int)) &&& (BitVec.ofInt 64 127)).toNat : Int) = _
  rw [e, wrap_u64 (by omega) (by omega)]
theorem and127_u32 (m : Nat) : IntKind.u32.wrap ((BitVec.ofInt IntKind.u32.bits (m : Int)) &&& (BitVec.ofInt IntKind.u32.bits 127)).toNat = ((m % 128 : Nat) : Int) := by
  have e : ((BitVec.ofInt 32 (m : Int)) &&& (BitVec.ofInt 32 127)).toNat = m % 128 := by
    rw [BitVec.toNat_and]
    have h1 : (BitVec.ofInt 32 (127 : Int)).toNat = 2 ^ 7 - 1 := by decide
    have h2 : (BitVec.ofInt 32 (m : Int)).toNat = m % 2 ^ 32 := by simp [BitVec.toNat_ofInt]
    rw [h1, h2, Nat.and_two_pow_sub_one_eq_mod]
    omega
  show IntKind.u32.wrap (((BitVec.ofInt 32 (m : Int)) &&& (BitVec.ofInt 32 127)).toNat : Int) = _
  rw [e, w32u (by omega) (by omega)]
theorem or128_nat {x : Nat} (h : x < 128) : x ||| 128 = x + 128 := by
  have := Nat.two_pow_add_eq_or_of_lt (i := 7) (b := x) (by omega) 1
  simp only [Nat.mul_one] at this
  have e : (2 : Nat) ^ 7 = 128 := rfl
  rw [e] at this
  rw [Nat.or_comm]; omega
theorem or128_u8 {x : Nat} (h : x < 128) : IntKind.u8.wrap ((BitVec.ofInt IntKind.u8.bits (x : Int)) ||| (BitVec.ofInt IntKind.u8.bits 128)).toNat = (((UInt8.ofNat (x + 128)).toNat : Nat) : Int) := by
  have e : ((BitVec.ofInt 8 (x : Int)) ||| (BitVec.ofInt 8 128)).toNat = x + 128 := by
    rw [BitVec.toNat_or]
    have h1 : (BitVec.ofInt 8 (128 : Int)).toNat = 128 := by decide
    have h2 : (BitVec.ofInt 8 (x : Int)).toNat = x := by simp [BitVec.toNat_ofInt]; omega
    rw [h1, h2, or128_nat h]
  show IntKind.u8.wrap (((BitVec.ofInt 8 (x : Int)) ||| (BitVec.ofInt 8 128)).toNat : Int) = _
  rw [e, wrap_u8 (by omega) (by omega)]
  simp; omega
theorem or128_u32 {x : Nat} (h : x < 128) : IntKind.u32.wrap ((BitVec.ofInt IntKind.u32.bits (x : Int)) ||| (BitVec.ofInt IntKind.u32.bits 128)).toNat = ((x + 128 : Nat) : Int) := by
  have e : ((BitVec.ofInt 32 (x : Int)) ||| (BitVec.ofInt 32 128)).toNat = x + 128 := by
    rw [BitVec.toNat_or]
    have h1 : (BitVec.ofInt 32 (128 : Int)).toNat = 128 := by decide
    have h2 : (BitVec.ofInt 32 (x : Int)).toNat = x := by simp [BitVec.toNat_ofInt]; omega
    rw [h1, h2, or128_nat h]
  show IntKind.u32.wrap (((BitVec.ofInt 32 (x : Int)) ||| (BitVec.ofInt 32 128)).toNat : Int) = _
  rw [e, w32u (by omega) (by omega)]
theorem and1_i64 (n : Int) : IntKind.i64.wrap ((BitVec.ofInt IntKind.i64.bits n) &&& (BitVec.ofInt IntKind.i64.bits 1)).toNat = n % 2 := by
  have e : ((BitVec.ofInt 64 n) &&& (BitVec.ofInt 64 1)).toNat = (n % 2).toNat := by
    rw [BitVec.toNat_and]
    have h1 : (BitVec.ofInt 64 (1 : Int)).toNat = 2 ^ 1 - 1 := by decide
    have h2 : (BitVec.ofInt 64 n).toNat = (n % 2 ^ 64).toNat := by simp [BitVec.toNat_ofInt]
    rw [h1, h2, Nat.and_two_pow_sub_one_eq_mod]
    omega
  show IntKind.i64.wrap (((BitVec.ofInt 64 n) &&& (BitVec.ofInt 64 1)).toNat : Int) = _
  rw [e, w64 (by omega) (by omega)]; omega
theorem shr_nat {m : Nat} {b : Int} {k : IntKind} {e : Nat} (hb : min b.toNat k.bits = e) : ((m : Nat) : Int).fdiv (2 ^ min b.toNat k.bits) = ((m / 2 ^ e : Nat) : Int) := by
  rw [hb, Int.fdiv_eq_ediv_of_nonneg _ (Int.pow_nonneg (by decide))]
  simp
theorem shr_var {a b : Int} {k : IntKind} {e : Nat} (hb : b = (e : Int)) (he : e ≤ k.bits) : a.fdiv (2 ^ min b.toNat k.bits) = a / 2 ^ e := by
  subst hb
  rw [Int.fdiv_eq_ediv_of_nonneg _ (Int.pow_nonneg (by decide))]
  simp [Nat.min_eq_left he]
theorem byte_small {x : Nat} (h : x < 256) : ((byte (x : Int)).toNat : Int) = (x : Int) := by
  unfold byte; simp; omega

theorem bytesOf_nth {s : List UInt8} {j : Nat} (h : j < s.length) : nth (bytesOf s) j = some (.int .u8 (s[j].toNat : Int)) := by
  rw [nth_eq]; simp [bytesOf, h]
theorem take_eq_step {α : Type} {s t : List α} {k : Nat} (hs : k < s.length) (ht : k < t.length) (h : s.take k = t.take k) (he : s[k] = t[k]) : s.take (k + 1) = t.take (k + 1) := by
  rw [List.take_succ_eq_append_getElem hs, List.take_succ_eq_append_getElem ht, h, he]
theorem fixed_length (n : Int) : ∀ k, (fixed n k).length = k
  | 0 => rfl
  | k + 1 => by simp [fixed, fixed_length n k]
theorem fixed_get (n : Int) : ∀ size k, k < size → (fixed n size)[k]? = some (byte (n / 2 ^ (8 * (size - 1 - k))))
  | 0, k, h => by omega
  | s + 1, 0, _ => by simp [fixed]
  | s + 1, k + 1, h => by
    simp only [fixed, List.getElem?_cons_succ]
    rw [fixed_get n s k (by omega)]
    congr 5; omega
theorem fixed_take (n : Int) (size k : Nat) (h : k < size) : (fixed n size).take (k + 1) = (fixed n size).take k ++ [byte (n / 2 ^ (8 * (size - 1 - k)))] := by
  have hl : k < (fixed n size).length := by rw [fixed_length]; exact h
  rw [List.take_succ_eq_append_getElem hl]
  have := fixed_get n size k h
  rw [List.getElem?_eq_getElem hl] at this
  simp only [Option.some.injEq] at this
  rw [this]
theorem uvar_step {m : Nat} (h : 127 < m) : uvar m = UInt8.ofNat (m % 128 + 128) :: uvar (m / 128) := by rw [uvar]; simp [h]
theorem uvar_end {m : Nat} (h : m ≤ 127) : uvar m = [UInt8.ofNat m] := by rw [uvar]; simp [show ¬ m > 127 by omega]
theorem div_step {m A p : Nat} (h : m ≤ A / p) : m / 128 ≤ A / (p * 128) := by
  rw [← Nat.div_div_eq_div_mul]; exact Nat.div_le_div_right h
theorem uvar_len : ∀ (k m : Nat), m < 128 ^ (k + 1) → (uvar m).length ≤ k + 1
  | 0, m, h => by rw [uvar_end (by omega)]; simp
  | k + 1, m, h => by
    by_cases hm : 127 < m
    · rw [uvar_step hm]
      have := uvar_len k (m / 128) (by rw [Nat.pow_succ] at h; omega)
      simp; omega
    · rw [uvar_end (by omega)]; simp
end Go.Sx
/- Rows of elements of some cells each. -/
namespace Go.Sx
theorem flatMap_len {α : Type} (f : α → List Value) (size : Nat) (hf : ∀ x, (f x).length = size) : ∀ es : List α, (es.flatMap f).length = es.length * size
  | [] => by simp
  | x :: es => by simp [flatMap_len f size hf es, hf, Nat.add_mul]; omega
theorem flatMap_drop {α : Type} (f : α → List Value) (size : Nat) (hf : ∀ x, (f x).length = size) : ∀ (es : List α) (j : Nat), (es.flatMap f).drop (j * size) = (es.drop j).flatMap f
  | [], j => by simp
  | x :: es, 0 => by simp
  | x :: es, j + 1 => by
    have h1 : (j + 1) * size = (f x).length + j * size := by rw [hf, Nat.add_mul]; omega
    simp only [List.flatMap_cons, List.drop_succ_cons]
    rw [h1, List.drop_append, Nat.add_sub_cancel_left, flatMap_drop f size hf es j]
    simp
theorem flatMap_take {α : Type} (f : α → List Value) (size : Nat) (hf : ∀ x, (f x).length = size) : ∀ (es : List α) (j : Nat), (es.flatMap f).take (j * size) = (es.take j).flatMap f
  | [], j => by simp
  | x :: es, 0 => by simp
  | x :: es, j + 1 => by
    have h1 : (j + 1) * size = (f x).length + j * size := by rw [hf, Nat.add_mul]; omega
    simp only [List.flatMap_cons, List.take_succ_cons]
    rw [h1, List.take_append, Nat.add_sub_cancel_left, flatMap_take f size hf es j, List.take_of_length_le (by omega)]
theorem flatMap_seg {α : Type} (f : α → List Value) (size : Nat) (hf : ∀ x, (f x).length = size) (es : List α) (j : Nat) (hj : j < es.length) : ((es.flatMap f).drop (j * size)).take size = f es[j] := by
  rw [flatMap_drop f size hf, List.drop_eq_getElem_cons hj, List.flatMap_cons, List.take_append_of_le_length (by rw [hf]; omega)]
  rw [← hf es[j], List.take_length]
theorem cut'_some (l : List Value) : ∀ n m, n + m ≤ l.length → cut' l n m = some ((l.drop n).take m) := by
  induction l with
  | nil => intro n m h; simp at h; obtain ⟨rfl, rfl⟩ := h; rfl
  | cons v l ih =>
    intro n m h
    cases n with
    | zero =>
      cases m with
      | zero => simp [cut']
      | succ m => simp only [cut']; rw [ih 0 m (by simp at h; omega)]; simp
    | succ n => simp only [cut']; rw [ih n m (by simp at h; omega)]; simp
theorem cut'_seg {α : Type} (f : α → List Value) (size : Nat) (hf : ∀ x, (f x).length = size) {es : List α} {j : Nat} (hj : j < es.length) : cut' (es.flatMap f) (j * size) size = some (f es[j]) := by
  rw [cut'_some _ _ _ (by rw [flatMap_len f size hf, ← Nat.succ_mul]; exact Nat.mul_le_mul_right _ hj), flatMap_seg f size hf es j hj]
/-- A frozen row's element. -/
theorem Fz.at.elem {α : Type} {H : Fz} {g : Nat} (f : α → List Value) (size : Nat) (hf : ∀ x, (f x).length = size) {es : List α} (h : H.at g 0 (es.flatMap f)) {j : Nat} (hj : j < es.length) : H.at g (0 + j * size) (f es[j]) := by
  have := h.part (j * size) size
  rwa [flatMap_seg f size hf es j hj] at this

section
variable {P : Program} {ops : Array Oper} {Q : Exit → Act → World → Prop} {rest : List Oper} {n : Nat} {l : Env} {H : Fz} {L : Own}
variable {d ty : Nat} {pos : String} {af : Array Edge}
/-- A row becomes frozen. -/
theorem frW {c : Code} {e size : Nat} {a : Option Addr} {m cap : Nat} {xs : List Value} {N : Chunk} {L' : Own} (hr : Row e size a m cap xs N) (hs : Sel L N L')
    (h : ∀ H', H.le H' → (a = none ∧ m = 0 ∧ cap = 0 ∨ ∃ g, a = some ⟨g, 0, none⟩ ∧ H'.at g 0 xs) → Wp P c Q n l H' L') : Wp P c Q n l H L := by
  intro a' w hA hw
  obtain ⟨H', h1, h2, h3⟩ := hr.freeze hs hw
  exact h H' h1 h3 a' w hA h2
theorem frL {os : List Oper} {e size : Nat} {a : Option Addr} {m cap : Nat} {xs : List Value} {N : Chunk} {L' : Own} (hr : Row e size a m cap xs N) (hs : Sel L N L')
    (h : ∀ H', H.le H' → (a = none ∧ m = 0 ∧ cap = 0 ∨ ∃ g, a = some ⟨g, 0, none⟩ ∧ H'.at g 0 xs) → WL P ops Q os n l H' L') : WL P ops Q os n l H L := by
  intro a' w hA hw
  obtain ⟨H', h1, h2, h3⟩ := hr.freeze hs hw
  exact h H' h1 h3 a' w hA h2
/-- A store into a row. -/
theorem sR {T b o e m size k cap : Nat} {xs ds : List Value} {N : Chunk} {x y : Operand} {F : Chunk → Own} {ad : Option Addr} (hr : Row e size ad k cap xs N) (had : ad = some ⟨b, 0, none⟩) (hF : ∀ N', Upd L N N' (F N')) (hz : ∀ w, (sizeOf T).run P w = .ok m w)
    (hx : get l x = some (.pointer (some ⟨b, o, none⟩))) (hy : get l y = some (.agg ds.toArray)) (hm : ds.length = m) (h1 : ds.all (·.oneCell') = true) (hle : o + m ≤ k * size)
    (h : ∀ N', Row e size ad k cap (xs.take o ++ ds ++ xs.drop (o + m)) N' → WL P ops Q rest n l H (F N')) : WL P ops Q (⟨none, .store T x y, ty, pos, af, none⟩ :: rest) n l H L :=
  WL.skw rfl rfl (fun a w hA hw => by
    subst had
    rcases hr.2 with ⟨h0, _⟩ | ⟨g, cur, h0, rfl, hkc, hcm, hcs, htake⟩
    · cases h0
    cases h0
    have hb := (hF []).here hw (List.mem_singleton.2 rfl)
    have hoc : o + m ≤ cur.size := by rw [hcs]; exact Nat.le_trans hle (Nat.mul_le_mul_right _ hkc)
    have hst := run_storeCells_at P b o e ds 0 cur w hb (by omega) (by simpa using h1)
    simp only [Nat.add_zero] at hst
    refine ⟨w.setRow b (cur.toList.take o ++ ds ++ cur.toList.drop (o + ds.length)).toArray, H, F [(b, .cells (cur.toList.take o ++ ds ++ cur.toList.drop (o + ds.length)).toArray e (0, 0))], by simp [execOp, hA.get hx, hA.get hy, Instr.storeAt, Instr.sureAddr, storeVar, hz, Value.cells, hm, hst], setRow_turn hw (hF _), h _ ⟨?_, .inr ⟨b, _, rfl, rfl, hkc, hcm, ?_, ?_⟩⟩⟩
    · have := hr.1
      simp only [List.length_append, List.length_take, List.length_drop]; omega
    · simp only [List.size_toArray, List.length_append, List.length_take, List.length_drop, Array.length_toList]; omega
    · subst hm
      rw [← htake]
      apply List.ext_getElem?
      intro i
      simp only [List.getElem?_take, List.getElem?_append, List.length_append, List.length_take, Array.length_toList, List.getElem?_drop]
      have hmin : min o cur.size = o := by omega
      have hmin2 : min o (min (k * size) cur.size) = o := by omega
      simp only [hmin, hmin2]
      by_cases h3 : i < k * size
      · simp only [h3, if_true]
        by_cases h4 : i < o + ds.length
        · simp only [h4, if_true]
        · simp only [h4, if_false]
          have : o + ds.length + (i - (o + ds.length)) < k * size := by omega
          simp [this]
      · have h5 : ¬ i < o := by omega
        have h6 : ¬ i < o + ds.length := by omega
        have h7 : ¬ (o + ds.length + (i - (o + ds.length)) < k * size) := by omega
        simp [h3, h6, h7])
end

theorem GC.len (p : GC × (Int × List UInt8)) : (p.1.cells p.2).length = 2 := rfl
theorem TC.len (p : TC × Tr) : (p.1.cells p.2).length = 5 := rfl
/-- Tags in a frozen row. -/
theorem TagsAt.row {H : Fz} {a : Option Addr} {m cap : Nat} {es : List (GC × (Int × List UInt8))} (h : a = none ∧ m = 0 ∧ cap = 0 ∨ ∃ g, a = some ⟨g, 0, none⟩ ∧ H.at g 0 (es.flatMap fun p => p.1.cells p.2)) (hm : m = es.length) (hc : m ≤ cap) (hb : es.length * 32 ≤ B47)
    (he : ∀ p ∈ es, TagAt H p.1 p.2) : TagsAt H a cap (es.map (·.2)) := by
  refine ⟨fun hne => ?_, by simp; omega, by simpa using hb⟩
  rcases h with ⟨_, h0, _⟩ | ⟨g, rfl, h1⟩
  · have : es = [] := List.eq_nil_of_length_eq_zero (by omega)
    subst this; simp at hne
  · refine ⟨g, 0, rfl, fun i hi => ?_⟩
    have hi' : i < es.length := by simpa using hi
    exact ⟨es[i].1, by simpa using h1.elem _ 2 GC.len hi', by simpa using he _ (List.getElem_mem hi')⟩
theorem TreesAt.row {H : Fz} {a : Option Addr} {m cap : Nat} {es : List (TC × Tr)} (h : a = none ∧ m = 0 ∧ cap = 0 ∨ ∃ g, a = some ⟨g, 0, none⟩ ∧ H.at g 0 (es.flatMap fun p => p.1.cells p.2)) (hm : m = es.length) (hc : m ≤ cap) (hb : es.length * 88 ≤ B47)
    (he : ∀ p ∈ es, TreeAt H p.1 p.2) : TreesAt H a cap (es.map (·.2)) := by
  refine ⟨fun hne => ?_, by simp; omega, by simpa using hb⟩
  rcases h with ⟨_, h0, _⟩ | ⟨g, rfl, h1⟩
  · have : es = [] := List.eq_nil_of_length_eq_zero (by omega)
    subst this; simp at hne
  · refine ⟨g, 0, rfl, fun i hi => ?_⟩
    have hi' : i < es.length := by simpa using hi
    exact ⟨es[i].1, by simpa using h1.elem _ 5 TC.len hi', by simpa using he _ (List.getElem_mem hi')⟩
end Go.Sx
/- Plain laws on the unknown tags' order. -/
namespace Go.Sx
abbrev TE := GC × (Int × List UInt8)
def keyOf (p : TE) : Int := p.2.1
/-- How many stand ahead that have a lesser key. -/
def ahead (k : Int) : List TE → Nat
  | [] => 0
  | p :: r => if p.2.1 < k then ahead k r + 1 else 0
theorem ahead_le (k : Int) : ∀ l : List TE, ahead k l ≤ l.length
  | [] => by simp [ahead]
  | p :: r => by simp only [ahead]; split <;> simp <;> have := ahead_le k r <;> omega
theorem ahead_lt {k : Int} : ∀ {l : List TE} {i : Nat} (h : i < l.length), i < ahead k l → l[i].2.1 < k
  | p :: r, 0, h, h1 => by simp only [ahead] at h1; split at h1 <;> simp_all
  | p :: r, i + 1, h, h1 => by
    simp only [ahead] at h1
    split at h1
    · simpa using ahead_lt (l := r) (i := i) (by simpa using h) (by omega)
    · omega
theorem ahead_stop {k : Int} : ∀ {l : List TE} (h : ahead k l < l.length), ¬ l[ahead k l].2.1 < k
  | p :: r, h => by
    by_cases hp : p.2.1 < k
    · have e : ahead k (p :: r) = ahead k r + 1 := by simp [ahead, hp]
      have h' : ahead k r < r.length := by rw [e] at h; simpa using h
      have := ahead_stop (k := k) (l := r) h'
      simpa [e] using this
    · have e : ahead k (p :: r) = 0 := by simp [ahead, hp]
      simpa [e] using hp
theorem ahead_eq {k : Int} {l : List TE} {i : Nat} (hi : i ≤ l.length) (h1 : ∀ j (hj : j < l.length), j < i → l[j].2.1 < k) (h2 : ∀ h : i < l.length, ¬ l[i].2.1 < k) : i = ahead k l := by
  rcases Nat.lt_trichotomy i (ahead k l) with h | h | h
  · have hil : i < l.length := Nat.lt_of_lt_of_le h (ahead_le k l)
    exact absurd (ahead_lt hil h) (h2 hil)
  · exact h
  · have hal : ahead k l < l.length := by omega
    exact absurd (h1 _ hal h) (ahead_stop hal)
def insE (p : TE) (l : List TE) : List TE := l.take (ahead p.2.1 l) ++ [p] ++ l.drop (ahead p.2.1 l)
theorem insTag_same (k : Int) (v : List UInt8) : ∀ l : List TE, (∃ h : ahead k l < l.length, l[ahead k l].2.1 = k) → insTag k v (l.map (·.2)) = l.map (·.2)
  | [], ⟨h, _⟩ => by simp at h
  | p :: r, ⟨h, h1⟩ => by
    obtain ⟨g, k', v'⟩ := p
    by_cases hp : k' < k
    · have e : ahead k ((g, k', v') :: r) = ahead k r + 1 := by simp [ahead, hp]
      have h' : ahead k r < r.length := by rw [e] at h; simpa using h
      have := insTag_same k v r ⟨h', by simpa [e] using h1⟩
      simp [insTag, hp, this]
    · have e : ahead k ((g, k', v') :: r) = 0 := by simp [ahead, hp]
      have : k' = k := by simpa [e] using h1
      subst this
      simp [insTag]
theorem insTag_new (g : GC) (k : Int) (v : List UInt8) : ∀ l : List TE, ¬ (∃ h : ahead k l < l.length, l[ahead k l].2.1 = k) → insTag k v (l.map (·.2)) = (insE (g, k, v) l).map (·.2)
  | [], _ => by simp [insTag, insE, ahead]
  | p :: r, hn => by
    obtain ⟨g', k', v'⟩ := p
    by_cases hp : k' < k
    · have e : ahead k ((g', k', v') :: r) = ahead k r + 1 := by simp [ahead, hp]
      have := insTag_new g k v r (fun ⟨h, h1⟩ => hn ⟨by rw [e]; simpa using h, by simpa [e] using h1⟩)
      simp only [insE] at this ⊢
      simp only [e]
      simp [insTag, hp, this]
    · have e : ahead k ((g', k', v') :: r) = 0 := by simp [ahead, hp]
      have hne : ¬ k' = k := fun h => hn ⟨by rw [e]; simp, by simpa [e] using h⟩
      simp [insTag, hp, hne, insE, e]
theorem insE_len (p : TE) (l : List TE) : (insE p l).length = l.length + 1 := by
  have := ahead_le p.2.1 l
  simp [insE]; omega
theorem unknownFrom_snoc (least : Int) (x : Int × List UInt8) : ∀ (us acc : List (Int × List UInt8)), unknownFrom least acc (us ++ [x]) = if x.1 < least then unknownFrom least acc us else insTag x.1 x.2 (unknownFrom least acc us)
  | [], acc => by obtain ⟨k, v⟩ := x; simp only [List.nil_append, unknownFrom]
  | (k, v) :: us, acc => by simp only [List.cons_append, unknownFrom]; exact unknownFrom_snoc least x us _
theorem insTag_len (k : Int) (v : List UInt8) : ∀ l, (insTag k v l).length ≤ l.length + 1
  | [] => by simp [insTag]
  | (k', v') :: r => by
    simp only [insTag]
    have := insTag_len k v r
    split
    · simp; omega
    · split <;> simp
theorem unknownFrom_len (least : Int) : ∀ (us acc : List (Int × List UInt8)), (unknownFrom least acc us).length ≤ acc.length + us.length
  | [], acc => by simp [unknownFrom]
  | (k, v) :: us, acc => by
    simp only [unknownFrom, List.length_cons]
    have h2 := insTag_len k v acc
    by_cases h : k < least
    · have := unknownFrom_len least us acc
      simp only [h, if_true]; omega
    · have := unknownFrom_len least us (insTag k v acc)
      simp only [h, if_false]; omega
theorem unknown_len (fs : List Fd) (us : List (Int × List UInt8)) : (unknown fs us).length ≤ 32767 := by
  unfold unknown
  have := unknownFrom_len (known fs) (us.take most) []
  have h2 := take_most_len us
  simp only [List.length_nil] at this; omega
def f2 (p : TE) : List Value := p.1.cells p.2
theorem f2_one (p : TE) : ∀ u ∈ f2 p, u.oneCell' = true := by
  intro u hu
  simp only [f2, GC.cells, List.mem_cons, List.not_mem_nil, or_false] at hu
  rcases hu with rfl | rfl <;> rfl
theorem f2_len (p : TE) : (f2 p).length = 2 := rfl
theorem flatMap_set {α : Type} (f : α → List Value) (size : Nat) (hf : ∀ x, (f x).length = size) (E : List α) (q : Nat) (z : α) : (E.flatMap f).take (q * size) ++ f z ++ (E.flatMap f).drop (q * size + size) = (E.take q ++ [z] ++ E.drop (q + 1)).flatMap f := by
  rw [flatMap_take f size hf, ← Nat.succ_mul, flatMap_drop f size hf]
  simp [List.flatMap_append]
def shE (es : List TE) (q : Nat) (y : TE) : List TE := es.take q ++ [y] ++ es.drop q
theorem shE_len (es : List TE) {q : Nat} (y : TE) (h : q ≤ es.length) : (shE es q y).length = es.length + 1 := by simp [shE]; omega
theorem shE_get (es : List TE) {q j : Nat} (y : TE) (h : q ≤ es.length) (hj : j < q) : ∃ h' : j < (shE es q y).length, (shE es q y)[j] = es[j]'(by omega) := by
  refine ⟨by rw [shE_len es y h]; omega, ?_⟩
  simp only [shE, List.append_assoc]
  rw [List.getElem_append_left (by simp; omega)]
  simp
theorem shE_set (es : List TE) {q : Nat} (y z : TE) (h : q ≤ es.length) : (shE es q y).take q ++ [z] ++ (shE es q y).drop (q + 1) = shE es q z := by
  have h1 : (es.take q).length = q := by simp; omega
  simp only [shE, List.append_assoc]
  rw [List.take_append_of_le_length (by omega), List.take_of_length_le (by omega)]
  have : (es.take q ++ ([y] ++ es.drop q)).drop (q + 1) = es.drop q := by
    rw [List.drop_append, List.drop_of_length_le (by omega)]
    simp [h1]
  rw [this]
theorem shE_down (es : List TE) {q : Nat} (h : q < es.length) : shE es (q + 1) es[q] = shE es q es[q] := by
  simp only [shE]
  rw [List.take_succ_eq_append_getElem h]
  have : es.drop q = es[q] :: es.drop (q + 1) := List.drop_eq_getElem_cons h
  rw [this]; simp
theorem shE_zero (es : List TE) (z : TE) : shE es es.length z = es ++ [z] := by simp [shE]
theorem flatMap_snoc {α : Type} (f : α → List Value) (es : List α) (z : α) : (es ++ [z]).flatMap f = es.flatMap f ++ f z := by simp [List.flatMap_append]
theorem shE_end (es : List TE) (p : TE) : shE es (ahead p.2.1 es) p = insE p es := rfl
theorem mem_insE {p x : TE} {es : List TE} (h : x ∈ insE p es) : x = p ∨ x ∈ es := by
  simp only [insE, List.mem_append, List.mem_singleton] at h
  rcases h with (h | h) | h
  · exact .inr (List.mem_of_mem_take h)
  · exact .inl h
  · exact .inr (List.mem_of_mem_drop h)
theorem Row.addr {e size : Nat} {a : Option Addr} {n cap : Nat} {xs : List Value} {N : Chunk} (h : Row e size a n cap xs N) (hn : 0 < n) : ∃ g, a = some ⟨g, 0, none⟩ := by
  rcases h.2 with ⟨_, h0, _⟩ | ⟨g, _, h1, _⟩
  · omega
  · exact ⟨g, h1⟩
theorem Row.says' {e size : Nat} {a : Option Addr} {b : Nat} {n cap : Nat} {xs : List Value} {N : Chunk} {H : Fz} {L L' : Own} (h : Row e size a n cap xs N) (ha : a = some ⟨b, 0, none⟩) (hs : Sel L N L') : Says H L b 0 xs := by subst ha; exact h.says hs
theorem Says.elem {α : Type} {H : Fz} {L : Own} {g : Nat} (f : α → List Value) (size : Nat) (hf : ∀ x, (f x).length = size) {es : List α} (h : Says H L g 0 (es.flatMap f)) {j : Nat} (hj : j < es.length) : Says H L g (0 + j * size) (f es[j]) := by
  intro w hw i v hi
  have h1 := flatMap_seg f size hf es j hj
  rw [← h1, List.getElem?_take] at hi
  split at hi
  · rw [List.getElem?_drop] at hi
    have := h w hw _ v hi
    rwa [← Nat.add_assoc] at this
  · cases hi
end Go.Sx
/- The symbolic walk's laws for make and copy. -/
namespace Go.Sx
theorem reps_take (zs : List Value) (m : Nat) : ∀ c, m ≤ c → (reps zs c).take (m * zs.length) = reps zs m := by
  induction m with
  | zero => intro c _; simp [reps]
  | succ m ih =>
    intro c hc
    obtain ⟨c', rfl⟩ : ∃ c', c = c' + 1 := ⟨c - 1, by omega⟩
    simp only [reps]
    rw [Nat.add_mul, Nat.one_mul, Nat.add_comm (m * zs.length), List.take_length_add_append, ih c' (by omega)]
theorem BytesAt.row {H : Fz} {e : Nat} {a : Option Addr} {m cap : Nat} {s : List UInt8} {N : Chunk} (h : a = none ∧ m = 0 ∧ cap = 0 ∨ ∃ g, a = some ⟨g, 0, none⟩ ∧ H.at g 0 (bytesOf s)) (hr : Row e 1 a m cap (bytesOf s) N) (hb : s.length ≤ B47) : BytesAt H a cap s := by
  have hl := hr.1
  rw [bytesOf_length, Nat.mul_one] at hl
  refine ⟨fun hne => ?_, by have := hr.le.1; omega, hb⟩
  rcases h with ⟨_, h0, _⟩ | ⟨g, rfl, h1⟩
  · exact absurd (List.eq_nil_of_length_eq_zero (by omega)) hne
  · exact ⟨g, 0, rfl, h1⟩
section
variable {P : Program} {ops : Array Oper} {Q : Exit → Act → World → Prop} {rest : List Oper} {n : Nat} {l : Env} {H : Fz} {L : Own}
variable {d ty : Nat} {pos : String} {af : Array Edge}
theorem madeCells_eq {z : Value} {zs : List Value} (hz : z.cells = zs.toArray) (hp : 0 < zs.length) (m : Nat) : madeCells z.cells (m * zs.length) = (reps zs m).toArray := by
  have := range_reps zs hp m
  rw [hz]
  unfold madeCells
  rw [this]
theorem mks {T e size bytes m c : Nat} {z : Value} {zs : List Value} {x y : Operand} {kl kc : IntKind} {u v : Int} (ht : P.underlying T = some (.slice e)) (hi : TI P e size bytes z) (hz : z.cells = zs.toArray)
    (hx : get l x = some (.int kl u)) (hy : get l y = some (.int kc v)) (hu : u = (m : Int)) (hv : v = (c : Int)) (hmc : m ≤ c) (hb : bytes * c ≤ 281474976710656) (h63 : c ≤ maxLen) (hn : Nat.blt d n = true)
    (h : ∀ b N', Row e size (some ⟨b, 0, none⟩) m c (reps zs m) N' → WL P ops Q rest n ((d, .slice (some ⟨b, 0, none⟩) m c) :: l) H (N' :: L)) : WL P ops Q (⟨some d, .makeSlice T x y, ty, pos, af, none⟩ :: rest) n l H L :=
  WL.vw rfl rfl hn (fun a w hA hw => by
    subst hu hv
    obtain ⟨i, hii, hsz, hby, hzz⟩ := hi.ex
    have hl : zs.length = size := by have := hi.zc; rw [hz] at this; simpa using this
    have h63' : (c : Int) ≤ 9223372036854775807 := by
      have h := h63
      simp only [maxLen] at h; omega
    have hb' : (i.bytes : Int) * (c : Int) ≤ 281474976710656 := by
      have h : ((bytes * c : Nat) : Int) ≤ 281474976710656 := by omega
      rw [hby]; rwa [Int.natCast_mul] at h
    have hr := run_make (P := P) w T e i z ht hii hzz kl kc (m : Int) (c : Int) (by omega) (by omega) hb' h63'
    simp only [Int.toNat_natCast] at hr
    rw [hsz, ← hl, madeCells_eq hz (by rw [hl]; exact hi.pos)] at hr
    refine ⟨_, _, H, [(w.heap.size, .cells (reps zs c).toArray e (0, 0))] :: L, by simp [execOp, hA.get hx, hA.get hy, hr], hw.alloc _, h w.heap.size _ ⟨?_, .inr ⟨w.heap.size, _, rfl, rfl, hmc, h63, ?_, ?_⟩⟩⟩
    · rw [reps_length, hl]
    · simp [reps_length, hl]
    · simp only []
      rw [← hl]; exact reps_take zs m c hmc)
/-- octets are copied into an own row -/
theorem cpB {dT sT e m cap m' c' : Nat} {a a' : Option Addr} {x y : Operand} {s : List UInt8} {xs : List Value} {N : Chunk} {F : Chunk → Own} (hu : P.underlying dT = some (.slice e)) (hs : (P.info? e).map (·.size) = some 1)
    (hx : get l x = some (.slice a m cap)) (hy : get l y = some (.slice a' m' c')) (hr : Row e 1 a m cap xs N) (hF : ∀ N', Upd L N N' (F N')) (hB : BytesAt H a' c' s) (hm : m' = s.length) (hn : Nat.blt d n = true)
    (h : ∀ N', Row e 1 a m cap (bytesOf (s.take m) ++ xs.drop s.length) N' → WL P ops Q rest n ((d, .int .i64 ((min s.length m : Nat) : Int)) :: l) H (F N')) :
    WL P ops Q (⟨some d, .call { callee := .builtin .copy, args := #[x, y], argTypes := #[dT, sT] }, ty, pos, af, none⟩ :: rest) n l H L :=
  WL.vw rfl rfl hn (fun w0 w hA hw => by
    subst hm
    by_cases h0 : min s.length m = 0
    · have hc := run_copy_none (P := P) w dT sT ty e a a' m cap s.length c' hu hs h0
      refine ⟨.int .i64 0, w, H, F N, by simp [execOp, resolve, invoke, builtin, hA.get hx, hA.get hy, hc, goInt], ?_, ?_⟩
      · rw [(hF N).same]; exact hw
      · have e1 : bytesOf (s.take m) ++ xs.drop s.length = xs := by
          have hl := hr.1
          by_cases hs0 : s.length = 0
          · have : s = [] := List.eq_nil_of_length_eq_zero hs0
            subst this; simp [bytesOf]
          · have hm0 : m = 0 := by omega
            subst hm0
            have : xs = [] := List.eq_nil_of_length_eq_zero (by simpa using hl)
            subst this; simp [bytesOf]
        have := h N (by rw [e1]; exact hr)
        rw [h0] at this
        exact this
    · obtain ⟨b, o, rfl, hb⟩ := hB.at_ (by intro e0; subst e0; simp at h0)
      have hl := hr.1
      rcases hr.2 with ⟨_, hm0, _⟩ | ⟨g, cur, rfl, rfl, hnc, hcm, hcs, htake⟩
      · omega
      · have hg : w.heap[g]? = some (.cells cur e (0, 0)) := (hF []).here hw (List.mem_singleton.2 rfl)
        have hlen : (bytesOf (s.take m)).length = Nat.min s.length m := by rw [bytesOf_length, List.length_take]; exact Nat.min_comm _ _
        have hmin : Nat.min s.length m ≤ m := Nat.min_le_right _ _
        have hsrc : ∀ j v, (bytesOf (s.take m))[j]? = some v → w.cell? ((⟨b, o, none⟩ : Addr).add j) = some v := by
          intro j v hj
          rw [add_plain]
          refine hb.cellB hw.bs ?_
          simp only [bytesOf, List.getElem?_map, List.getElem?_take] at hj ⊢
          split at hj
          · exact hj
          · simp at hj
        have hc := run_copy_row (P := P) w dT sT ty e g 0 m cap ⟨b, o, none⟩ s.length c' cur e (bytesOf (s.take m)) hu hs hg hlen hsrc (by rw [hlen, hcs]; omega) (bytesOf_one _)
        simp only [List.take_zero, List.nil_append, Nat.zero_add] at hc
        rw [hlen] at hc
        refine ⟨goInt (Nat.min s.length m), _, H, F [(g, .cells (bytesOf (s.take m) ++ cur.toList.drop (Nat.min s.length m)).toArray e (0, 0))], by simp [execOp, resolve, invoke, builtin, hA.get hx, hA.get hy, hc], setRow_turn hw (hF _), h _ ⟨?_, .inr ⟨g, _, rfl, rfl, hnc, hcm, ?_, ?_⟩⟩⟩
        · rw [List.length_append, hlen, List.length_drop, hl]
          simp only [Nat.min_def]; split <;> omega
        · simp only [List.size_toArray, List.length_append, hlen, List.length_drop, Array.length_toList, hcs]
          simp only [Nat.min_def]; split <;> omega
        · simp only []
          rw [List.take_append, hlen, List.take_of_length_le (by rw [hlen]; omega)]
          congr 1
          rw [← htake]
          simp only [Nat.mul_one, List.drop_take]
          by_cases hsm : s.length ≤ m
          · rw [show Nat.min s.length m = s.length from Nat.min_eq_left hsm]
          · rw [show Nat.min s.length m = m from Nat.min_eq_right (by omega), Nat.sub_self, show m - s.length = 0 by omega]
            simp)
theorem src_row {tx e' e m cap : Nat} {a : Option Addr} {s : List UInt8} {N : Chunk} {L' : Own} (hk : P.underlying tx = some (.slice e')) (hr : Row e 1 a m cap (bytesOf s) N) (hs : Sel L N L') : ∀ w, Hp H L w → Src P 1 tx (.slice a m cap) m (bytesOf s) w := by
  intro w hw
  rcases hr.2 with ⟨rfl, rfl, rfl, _⟩ | ⟨g, cur, rfl, _⟩
  · have h0 : s = [] := List.eq_nil_of_length_eq_zero (by have := hr.1; rw [bytesOf_length] at this; omega)
    subst h0
    exact src_nil hk w hw
  · exact src_says hk hr.1 (fun _ => hr.says hs) (bytesOf_one s) w hw
/-- a test whose bool is known behind it -/
theorem cdU {t : Nat} {x y : Code} {p : Prop} [Decidable p] (hc : look l t = some (.bool (decide p))) (ht : p → Wp P x Q n ((t, .bool true) :: l) H L) (hf : ¬ p → Wp P y Q n ((t, .bool false) :: l) H L) : Wp P (.cond (.tmp t) x y) Q n l H L :=
  cd hc (fun hp => (ht hp).env (Sub.cons (by rw [hc]; simp [hp]) (Sub.refl l))) (fun hp => (hf hp).env (Sub.cons (by rw [hc]; simp [hp]) (Sub.refl l)))
theorem cbU {t : Nat} {x y : Code} {b : Bool} (hc : look l t = some (.bool b)) (ht : b = true → Wp P x Q n ((t, .bool true) :: l) H L) (hf : b = false → Wp P y Q n ((t, .bool false) :: l) H L) : Wp P (.cond (.tmp t) x y) Q n l H L :=
  cb hc (fun hp => (ht hp).env (Sub.cons (by rw [hc, hp]) (Sub.refl l))) (fun hp => (hf hp).env (Sub.cons (by rw [hc, hp]) (Sub.refl l)))
theorem toNn (h : Nn Q n l H L) : ∀ a w, Has n l a → Hp H L w → Q .normal a w := h
end
end Go.Sx

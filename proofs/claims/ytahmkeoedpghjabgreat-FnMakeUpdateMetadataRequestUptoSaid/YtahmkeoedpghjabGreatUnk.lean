/- Plain laws on the unknown tags' order. -/
import Derived.Test.YtahmkeoedpghjabGreatSxRow
set_option linter.unusedVariables false
set_option linter.unusedSimpArgs false
namespace Go.Sx
abbrev TE := GC × (Int × List UInt8)
def keyOf (p : TE) : Int := p.2.1
/-- How many stand ahead that have a lesser key. -/
def ahead (k : Int) : List TE → Nat
  | [] => 0
  | p :: r => if p.2.1 < k then ahead k r + 1 else 0
theorem ahead_le (k : Int) : ∀ l : List TE, ahead k l ≤ l.length
  | [] => by simp [ahead]
  | p :: r => by simp only [ahead]; split <;> simp <;> have := ahead_le k r <;> omega
theorem ahead_lt {k : Int} : ∀ {l : List TE} {i : Nat} (h : i < l.length), i < ahead k l → l[i].2.1 < k
  | p :: r, 0, h, h1 => by simp only [ahead] at h1; split at h1 <;> simp_all
  | p :: r, i + 1, h, h1 => by
    simp only [ahead] at h1
    split at h1
    · simpa using ahead_lt (l := r) (i := i) (by simpa using h) (by omega)
    · omega
theorem ahead_stop {k : Int} : ∀ {l : List TE} (h : ahead k l < l.length), ¬ l[ahead k l].2.1 < k
  | p :: r, h => by
    by_cases hp : p.2.1 < k
    · have e : ahead k (p :: r) = ahead k r + 1 := by simp [ahead, hp]
      have h' : ahead k r < r.length := by rw [e] at h; simpa using h
      have := ahead_stop (k := k) (l := r) h'
      simpa [e] using this
    · have e : ahead k (p :: r) = 0 := by simp [ahead, hp]
      simpa [e] using hp
theorem ahead_eq {k : Int} {l : List TE} {i : Nat} (hi : i ≤ l.length) (h1 : ∀ j (hj : j < l.length), j < i → l[j].2.1 < k) (h2 : ∀ h : i < l.length, ¬ l[i].2.1 < k) : i = ahead k l := by
  rcases Nat.lt_trichotomy i (ahead k l) with h | h | h
  · have hil : i < l.length := Nat.lt_of_lt_of_le h (ahead_le k l)
    exact absurd (ahead_lt hil h) (h2 hil)
  · exact h
  · have hal : ahead k l < l.length := by omega
    exact absurd (h1 _ hal h) (ahead_stop hal)
def insE (p : TE) (l : List TE) : List TE := l.take (ahead p.2.1 l) ++ [p] ++ l.drop (ahead p.2.1 l)
theorem insTag_same (k : Int) (v : List UInt8) : ∀ l : List TE, (∃ h : ahead k l < l.length, l[ahead k l].2.1 = k) → insTag k v (l.map (·.2)) = l.map (·.2)
  | [], ⟨h, _⟩ => by simp at h
  | p :: r, ⟨h, h1⟩ => by
    obtain ⟨g, k', v'⟩ := p
    by_cases hp : k' < k
    · have e : ahead k ((g, k', v') :: r) = ahead k r + 1 := by simp [ahead, hp]
      have h' : ahead k r < r.length := by rw [e] at h; simpa using h
      have := insTag_same k v r ⟨h', by simpa [e] using h1⟩
      simp [insTag, hp, this]
    · have e : ahead k ((g, k', v') :: r) = 0 := by simp [ahead, hp]
      have : k' = k := by simpa [e] using h1
      subst this
      simp [insTag]
theorem insTag_new (g : GC) (k : Int) (v : List UInt8) : ∀ l : List TE, ¬ (∃ h : ahead k l < l.length, l[ahead k l].2.1 = k) → insTag k v (l.map (·.2)) = (insE (g, k, v) l).map (·.2)
  | [], _ => by simp [insTag, insE, ahead]
  | p :: r, hn => by
    obtain ⟨g', k', v'⟩ := p
    by_cases hp : k' < k
    · have e : ahead k ((g', k', v') :: r) = ahead k r + 1 := by simp [ahead, hp]
      have := insTag_new g k v r (fun ⟨h, h1⟩ => hn ⟨by rw [e]; simpa using h, by simpa [e] using h1⟩)
      simp only [insE] at this ⊢
      simp only [e]
      simp [insTag, hp, this]
    · have e : ahead k ((g', k', v') :: r) = 0 := by simp [ahead, hp]
      have hne : ¬ k' = k := fun h => hn ⟨by rw [e]; simp, by simpa [e] using h⟩
      simp [insTag, hp, hne, insE, e]
theorem insE_len (p : TE) (l : List TE) : (insE p l).length = l.length + 1 := by
  have := ahead_le p.2.1 l
  simp [insE]; omega
theorem unknownFrom_snoc (least : Int) (x : Int × List UInt8) : ∀ (us acc : List (Int × List UInt8)), unknownFrom least acc (us ++ [x]) = if x.1 < least then unknownFrom least acc us else insTag x.1 x.2 (unknownFrom least acc us)
  | [], acc => by obtain ⟨k, v⟩ := x; simp only [List.nil_append, unknownFrom]
  | (k, v) :: us, acc => by simp only [List.cons_append, unknownFrom]; exact unknownFrom_snoc least x us _
theorem insTag_len (k : Int) (v : List UInt8) : ∀ l, (insTag k v l).length ≤ l.length + 1
  | [] => by simp [insTag]
  | (k', v') :: r => by
    simp only [insTag]
    have := insTag_len k v r
    split
    · simp; omega
    · split <;> simp
theorem unknownFrom_len (least : Int) : ∀ (us acc : List (Int × List UInt8)), (unknownFrom least acc us).length ≤ acc.length + us.length
  | [], acc => by simp [unknownFrom]
  | (k, v) :: us, acc => by
    simp only [unknownFrom, List.length_cons]
    have h2 := insTag_len k v acc
    by_cases h : k < least
    · have := unknownFrom_len least us acc
      simp only [h, if_true]; omega
    · have := unknownFrom_len least us (insTag k v acc)
      simp only [h, if_false]; omega
theorem unknown_len (fs : List Fd) (us : List (Int × List UInt8)) : (unknown fs us).length ≤ 32767 := by
  unfold unknown
  have := unknownFrom_len (known fs) (us.take most) []
  have h2 := take_most_len us
  simp only [List.length_nil] at this; omega
def f2 (p : TE) : List Value := p.1.cells p.2
theorem f2_one (p : TE) : ∀ u ∈ f2 p, u.oneCell' = true := by
  intro u hu
  simp only [f2, GC.cells, List.mem_cons, List.not_mem_nil, or_false] at hu
  rcases hu with rfl | rfl <;> rfl
theorem f2_len (p : TE) : (f2 p).length = 2 := rfl
theorem flatMap_set {α : Type} (f : α → List Value) (size : Nat) (hf : ∀ x, (f x).length = size) (E : List α) (q : Nat) (z : α) : (E.flatMap f).take (q * size) ++ f z ++ (E.flatMap f).drop (q * size + size) = (E.take q ++ [z] ++ E.drop (q + 1)).flatMap f := by
  rw [flatMap_take f size hf, ← Nat.succ_mul, flatMap_drop f size hf]
  simp [List.flatMap_append]
def shE (es : List TE) (q : Nat) (y : TE) : List TE := es.take q ++ [y] ++ es.drop q
theorem shE_len (es : List TE) {q : Nat} (y : TE) (h : q ≤ es.length) : (shE es q y).length = es.length + 1 := by simp [shE]; omega
theorem shE_get (es : List TE) {q j : Nat} (y : TE) (h : q ≤ es.length) (hj : j < q) : ∃ h' : j < (shE es q y).length, (shE es q y)[j] = es[j]'(by omega) := by
  refine ⟨by rw [shE_len es y h]; omega, ?_⟩
  simp only [shE, List.append_assoc]
  rw [List.getElem_append_left (by simp; omega)]
  simp
theorem shE_set (es : List TE) {q : Nat} (y z : TE) (h : q ≤ es.length) : (shE es q y).take q ++ [z] ++ (shE es q y).drop (q + 1) = shE es q z := by
  have h1 : (es.take q).length = q := by simp; omega
  simp only [shE, List.append_assoc]
  rw [List.take_append_of_le_length (by omega), List.take_of_length_le (by omega)]
  have : (es.take q ++ ([y] ++ es.drop q)).drop (q + 1) = es.drop q := by
    rw [List.drop_append, List.drop_of_length_le (by omega)]
    simp [h1]
  rw [this]
theorem shE_down (es : List TE) {q : Nat} (h : q < es.length) : shE es (q + 1) es[q] = shE es q es[q] := by
  simp only [shE]
  rw [List.take_succ_eq_append_getElem h]
  have : es.drop q = es[q] :: es.drop (q + 1) := List.drop_eq_getElem_cons h
  rw [this]; simp
theorem shE_zero (es : List TE) (z : TE) : shE es es.length z = es ++ [z] := by simp [shE]
theorem flatMap_snoc {α : Type} (f : α → List Value) (es : List α) (z : α) : (es ++ [z]).flatMap f = es.flatMap f ++ f z := by simp [List.flatMap_append]
theorem shE_end (es : List TE) (p : TE) : shE es (ahead p.2.1 es) p = insE p es := rfl
theorem mem_insE {p x : TE} {es : List TE} (h : x ∈ insE p es) : x = p ∨ x ∈ es := by
  simp only [insE, List.mem_append, List.mem_singleton] at h
  rcases h with (h | h) | h
  · exact .inr (List.mem_of_mem_take h)
  · exact .inl h
  · exact .inr (List.mem_of_mem_drop h)
theorem Row.addr {e size : Nat} {a : Option Addr} {n cap : Nat} {xs : List Value} {N : Chunk} (h : Row e size a n cap xs N) (hn : 0 < n) : ∃ g, a = some ⟨g, 0, none⟩ := by
  rcases h.2 with ⟨_, h0, _⟩ | ⟨g, _, h1, _⟩
  · omega
  · exact ⟨g, h1⟩
theorem Row.says' {e size : Nat} {a : Option Addr} {b : Nat} {n cap : Nat} {xs : List Value} {N : Chunk} {H : Fz} {L L' : Own} (h : Row e size a n cap xs N) (ha : a = some ⟨b, 0, none⟩) (hs : Sel L N L') : Says H L b 0 xs := by subst ha; exact h.says hs
theorem Says.elem {α : Type} {H : Fz} {L : Own} {g : Nat} (f : α → List Value) (size : Nat) (hf : ∀ x, (f x).length = size) {es : List α} (h : Says H L g 0 (es.flatMap f)) {j : Nat} (hj : j < es.length) : Says H L g (0 + j * size) (f es[j]) := by
  intro w hw i v hi
  have h1 := flatMap_seg f size hf es j hj
  rw [← h1, List.getElem?_take] at hi
  split at hi
  · rw [List.getElem?_drop] at hi
    have := h w hw _ v hi
    rwa [← Nat.add_assoc] at this
  · cases hi
end Go.Sx

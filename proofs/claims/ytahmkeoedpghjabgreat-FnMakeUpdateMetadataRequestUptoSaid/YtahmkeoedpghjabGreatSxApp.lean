/- The symbolic walk's laws for slices that grow, and for loops over a range. -/
import Derived.Test.YtahmkeoedpghjabGreatSxMem
import Derived.Deep.AppendSrc
import Derived.Laws.MakeOwn
set_option linter.unusedVariables false
set_option linter.unusedSimpArgs false
namespace Go.Sx

/-- A slice of the function's own: nil, or at the head of a block that is all its own; n elements of so many cells. -/
def Row (e size : Nat) (a : Option Addr) (n cap : Nat) (xs : List Value) (N : Chunk) : Prop :=
  xs.length = n * size ∧ ((a = none ∧ n = 0 ∧ cap = 0 ∧ N = []) ∨
    ∃ g cur, a = some ⟨g, 0, none⟩ ∧ N = [(g, .cells cur e (0, 0))] ∧ n ≤ cap ∧ cap ≤ maxLen ∧ cur.size = cap * size ∧ cur.toList.take (n * size) = xs)
theorem Row.nil (e size : Nat) : Row e size none 0 0 [] [] := ⟨by simp, .inl ⟨rfl, rfl, rfl, rfl⟩⟩
theorem Row.len {e size : Nat} {a : Option Addr} {n cap : Nat} {xs : List Value} {N : Chunk} (h : Row e size a n cap xs N) : xs.length = n * size := h.1
theorem Row.le {e size : Nat} {a : Option Addr} {n cap : Nat} {xs : List Value} {N : Chunk} (h : Row e size a n cap xs N) : n ≤ cap ∧ cap ≤ maxLen := by
  rcases h.2 with ⟨_, rfl, rfl, _⟩ | ⟨g, cur, _, _, h1, h2, _⟩
  · simp [maxLen]
  · exact ⟨h1, h2⟩
/-- A block that was just made, whole. -/
theorem Row.whole {e size g m : Nat} {ds : List Value} (hl : ds.length = m * size) (hm : m ≤ maxLen) : Row e size (some ⟨g, 0, none⟩) m m ds [(g, .cells ds.toArray e (0, 0))] :=
  ⟨hl, .inr ⟨g, ds.toArray, rfl, rfl, Nat.le_refl _, hm, by simpa using hl, by simp [← hl]⟩⟩
/-- What it says. -/
theorem Row.says {e size : Nat} {b off : Nat} {n cap : Nat} {xs : List Value} {N : Chunk} {H : Fz} {L L' : Own} (h : Row e size (some ⟨b, off, none⟩) n cap xs N) (hs : Sel L N L') : Says H L b off xs := by
  rcases h.2 with ⟨h0, _⟩ | ⟨g, cur, h1, rfl, _, _, _, h2⟩
  · cases h0
  · cases h1
    refine Says.ownArr hs 0 xs fun j v hj => ?_
    rw [← h2, List.getElem?_take] at hj
    split at hj
    · simpa using hj
    · cases hj
/-- It becomes frozen. -/
theorem Row.freeze {e size : Nat} {a : Option Addr} {n cap : Nat} {xs : List Value} {N : Chunk} {H : Fz} {L L' : Own} {w : World} (h : Row e size a n cap xs N) (hs : Sel L N L') (hw : Hp H L w) :
    ∃ H', H.le H' ∧ Hp H' L' w ∧ (a = none ∧ n = 0 ∧ cap = 0 ∨ ∃ g, a = some ⟨g, 0, none⟩ ∧ H'.at g 0 xs) := by
  rcases h.2 with ⟨rfl, rfl, rfl, rfl⟩ | ⟨g, cur, rfl, rfl, _, _, _, h2⟩
  · exact ⟨H, Fz.le.refl H, (hw.sel hs).drop, .inl ⟨rfl, rfl, rfl⟩⟩
  · obtain ⟨h3, h4⟩ := (hw.sel hs).freeze
    refine ⟨_, h4, h3.drop, .inr ⟨g, rfl, cur, e, (0, 0), Fz.add_blk _ _ _, fun j v hj => ?_⟩⟩
    rw [← h2, List.getElem?_take] at hj
    split at hj
    · simpa using hj
    · cases hj

structure TI (P : Program) (t size bytes : Nat) (z : Value) : Prop where
  ex : ∃ i, P.info? t = some i ∧ i.size = size ∧ i.bytes = bytes ∧ i.zero = some z
  pos : 0 < size
  zc : z.cells.size = size

section
variable {P : Program} {ops : Array Oper} {Q : Exit → Act → World → Prop} {rest : List Oper} {n : Nat} {l : Env} {H : Fz} {L : Own}
variable {d ty : Nat} {pos : String} {af : Array Edge}

theorem src_says {tx e' size b off m c : Nat} {news : List Value} (hk : P.underlying tx = some (.slice e')) (hl : news.length = m * size) (h : news ≠ [] → Says H L b off news) (h1 : ∀ u ∈ news, u.oneCell' = true) :
    ∀ w, Hp H L w → Src P size tx (.slice (some ⟨b, off, none⟩) m c) m news w := fun w hw =>
  Src.ofSlice w hk _ m c news hl (fun j u hu => by
    rw [add_plain]
    exact h (by intro h0; subst h0; simp at hu) w hw.bs j u hu) h1
theorem src_nil {tx e' size c : Nat} (hk : P.underlying tx = some (.slice e')) : ∀ w, Hp H L w → Src P size tx (.slice none 0 c) 0 [] w := fun w _ => Src.ofNil w hk c
theorem src_str {tx : Nat} (s : ByteArray) (hk : P.underlying tx = some .string) : ∀ w, Hp H L w → Src P 1 tx (.string s) s.size (byteCells s) w := fun w _ => Src.ofString w hk s

theorem oneCell_zeros {z : Value} {m : Nat} (_ : True) : (Builtin.zeroCells z.cells m).size = m * z.cells.size := by simp [Builtin.zeroCells]

theorem run_append_row {t tx ty e size bytes : Nat} {z : Value} {a : Option Addr} {m cap k : Nat} {xs news : List Value} {N : Chunk} {src : Value} {F : Chunk → Own} {w : World}
    (ht : P.underlying t = some (.slice e)) (hi : TI P e size bytes z) (hr : Row e size a m cap xs N) (hF : ∀ N', Upd L N N' (F N')) (hsrc : Src P size tx src k news w)
    (hb : (m + k) * bytes ≤ 140737488355328) (h63 : m + k ≤ maxLen) (hw : Hp H L w) :
    ∃ a' cap' N' w', (Builtin.append_ #[t, tx] ty #[.slice a m cap, src]).run P w = .ok (.slice a' (m + k) cap') w' ∧ Row e size a' (m + k) cap' (xs ++ news) N' ∧ Hp H (F N') w' ∧ (a' = none ↔ a = none ∧ k = 0) := by
  obtain ⟨i, hii, hsz, hby, hz⟩ := hi.ex
  subst hsz hby
  have hk : news.length = k * i.size := hsrc.newsLen
  have hl : (xs ++ news).length = (m + k) * i.size := by rw [List.length_append, hr.1, hk, Nat.add_mul]
  have hsmall : m + k ≤ 9223372036854775807 := by simp only [maxLen] at h63; omega
  -- the arm that grows
  have grow : ∀ (hlt : cap < m + k) (hold : (Builtin.firstCells i.size m (.slice a m cap)).run P w.drew = .ok xs.toArray w.drew),
      ∃ a' cap' N' w', (Builtin.append_ #[t, tx] ty #[.slice a m cap, src]).run P w = .ok (.slice a' (m + k) cap') w' ∧ Row e i.size a' (m + k) cap' (xs ++ news) N' ∧ Hp H (F N') w' ∧ (a' = none ↔ a = none ∧ k = 0) := by
    intro hlt hold
    have hg := run_append_grow_src (P := P) w t tx ty e i z ht hii hz a m cap xs hold src k news hsrc hlt (by omega) (growslice_fits hlt hb)
    have hge := grownCap_ge w (m + k) cap e
    have hcm := grownCap_le_maxLen w (m + k) cap e h63
    have hak : a = none → ¬ k = 0 := by
      intro ha
      rcases hr.2 with ⟨_, h1, h2, _⟩ | ⟨g, cur, h1, _⟩
      · omega
      · rw [ha] at h1; cases h1
    generalize hC : (xs ++ news).toArray ++ Builtin.zeroCells z.cells (grownCap w (m + k) cap e - (m + k)) = C at hg
    refine ⟨some ⟨w.heap.size, 0, none⟩, grownCap w (m + k) cap e, [(w.heap.size, .cells C e (0, 0))], w.drew.alloc (.cells C e), hg, ⟨hl, .inr ⟨w.heap.size, C, rfl, rfl, hge, hcm, ?_, ?_⟩⟩, ?_, by simpa using hak⟩
    · subst hC
      simp only [Array.size_append, List.size_toArray, size_zeroCells, hi.zc, hl, ← Nat.add_mul]
      congr 1; omega
    · subst hC
      simp only [Array.toList_append]
      rw [← hl]
      exact List.take_left
    · have h1 : Hp H ([(w.heap.size, .cells C e (0, 0))] :: L) (w.drew.alloc (.cells C e)) := (hw.drew).alloc (.cells C e)
      obtain ⟨L0, g1, g4⟩ := (hF [(w.heap.size, .cells C e (0, 0))]).perm
      have h2 : Hp H ([(w.heap.size, .cells C e (0, 0))] :: N :: [L0]) (w.drew.alloc (.cells C e)) :=
        h1.perm (by
          simp only [List.flatten_cons, List.flatten_nil, List.append_nil]
          exact g1.append_left _)
      have h3 : Hp H (N :: [(w.heap.size, .cells C e (0, 0))] :: [L0]) (w.drew.alloc (.cells C e)) := h2.perm (by
          simp only [List.flatten_cons, List.flatten_nil, List.append_nil]
          rw [← List.append_assoc, ← List.append_assoc]
          exact List.perm_append_comm.append_right _)
      exact h3.drop.perm (by
          simp only [List.flatten_cons, List.flatten_nil, List.append_nil]
          exact g4.symm)
  rcases hr.2 with ⟨rfl, rfl, rfl, rfl⟩ | ⟨g, cur, rfl, rfl, hnc, hcm, hcs, htake⟩
  · have hx : xs = [] := List.eq_nil_of_length_eq_zero (by simpa using hr.1)
    subst hx
    by_cases hk0 : k = 0
    · subst hk0
      have hn : news = [] := List.eq_nil_of_length_eq_zero (by simpa using hk)
      subst hn
      refine ⟨none, 0, [], w, ?_, Row.nil _ _, ?_, by simp⟩
      · have hc := hsrc.cells
        rcases hsrc.kind with ⟨e', hq⟩ | hq <;> simp [Builtin.append_, run_underlying ht, run_underlying hq, sizeOf, typeInfo, hii, hsrc.len, hc]
      · obtain ⟨L0, g1, _⟩ := (hF []).perm
        obtain ⟨L1, g3, g4⟩ := (hF []).perm
        exact hw.perm (g3.trans g4.symm)
    · exact grow (by omega) (by simp [Builtin.firstCells])
  · have hb0 : w.heap[g]? = some (.cells cur e (0, 0)) := (hF []).here hw (List.mem_singleton.2 rfl)
    by_cases hroom : m + k ≤ cap
    · have hfit : m * i.size + news.length ≤ cur.size := by rw [hk, hcs, ← Nat.add_mul]; exact Nat.mul_le_mul_right _ hroom
      have hst := run_storeCells_at P g (m * i.size) e news 0 cur w hb0 (by simpa using hfit) hsrc.one
      have hrun : (Builtin.append_ #[t, tx] ty #[.slice (some ⟨g, 0, none⟩) m cap, src]).run P w = .ok (.slice (some ⟨g, 0, none⟩) (m + k) cap) (w.setRow g (cur.toList.take (m * i.size) ++ news ++ cur.toList.drop (m * i.size + news.length)).toArray) := by
        simp only [Nat.add_zero] at hst
        rcases hsrc.kind with ⟨e', hq⟩ | hq <;> simp [Builtin.append_, run_underlying ht, run_underlying hq, sizeOf, typeInfo, hii, hsrc.len, hroom, hsrc.cells, Addr.add_lit, hst]
      refine ⟨_, _, [(g, .cells (cur.toList.take (m * i.size) ++ news ++ cur.toList.drop (m * i.size + news.length)).toArray e (0, 0))], _, hrun, ⟨hl, .inr ⟨g, _, rfl, rfl, hroom, hcm, ?_, ?_⟩⟩, setRow_turn hw (hF _), by simp⟩
      · simp only [List.size_toArray, List.length_append, List.length_take, List.length_drop, Array.length_toList]
        omega
      · rw [htake, ← hl]
        exact List.take_left
    · refine grow (by omega) ?_
      refine run_firstCells_some (P := P) w.drew i.size m ⟨g, 0, none⟩ m cap xs hr.1 (fun j u hu => ?_)
      rw [← htake, List.getElem?_take] at hu
      rw [add_plain, World.cell?_drew]
      split at hu
      · simp only [World.cell?, hb0, Nat.zero_add]
        simpa using hu
      · cases hu

/-- an append -/
theorem ap {t tx e size bytes : Nat} {z : Value} {x y : Operand} {a : Option Addr} {m cap k : Nat} {xs news : List Value} {N : Chunk} {src : Value} {F : Chunk → Own}
    (ht : P.underlying t = some (.slice e)) (hi : TI P e size bytes z) (hx : get l x = some (.slice a m cap)) (hy : get l y = some src) (hr : Row e size a m cap xs N) (hF : ∀ N', Upd L N N' (F N')) (hsrc : ∀ w, Hp H L w → Src P size tx src k news w)
    (hb : (m + k) * bytes ≤ 140737488355328) (h63 : m + k ≤ maxLen) (hn : Nat.blt d n = true)
    (h : ∀ a' cap' N', Row e size a' (m + k) cap' (xs ++ news) N' → (a' = none ↔ a = none ∧ k = 0) → WL P ops Q rest n ((d, .slice a' (m + k) cap') :: l) H (F N')) :
    WL P ops Q (⟨some d, .call { callee := .builtin .append, args := #[x, y], argTypes := #[t, tx] }, ty, pos, af, none⟩ :: rest) n l H L :=
  WL.vw rfl rfl hn (fun w0 w hA hw => by
    obtain ⟨a', cap', N', w', h1, h2, h3, h4⟩ := run_append_row (P := P) (ty := ty) ht hi hr hF (hsrc w hw) hb h63 hw
    exact ⟨_, w', H, F N', by simp [execOp, resolve, invoke, builtin, hA.get hx, hA.get hy, h1], h3, h a' cap' N' h2 h4⟩)
end
end Go.Sx

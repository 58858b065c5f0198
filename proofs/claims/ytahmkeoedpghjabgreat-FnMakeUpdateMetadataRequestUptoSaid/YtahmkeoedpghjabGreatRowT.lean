/- From the row's reading to trees in memory. -/
import Derived.Test.YtahmkeoedpghjabGreatRows
import Derived.Test.YtahmkeoedpghjabGreatFoldL
import Derived.WalkKit
import Derived.ProofKit
import Derived.OpenShut
import Derived.JoinedCond
set_option linter.unusedVariables false
set_option linter.unusedSimpArgs false
namespace Go.Sx
open Go.Proofs.YtahmkeoedpghjabGreat
def fzOf (W : World) : Fz := ⟨fun b => W.heap[b]?, W.os, W.tape, W.output⟩
theorem hp_start (W : World) : Hp (fzOf W) [] W := ⟨rfl, rfl, rfl, fun _ _ h => h, fun _ _ h => by simp at h, by simp⟩
theorem mapM_range {α : Type} (f : Nat → Option α) : ∀ (n : Nat) (l : List α), (List.range n).mapM f = some l → l.length = n ∧ ∀ i (hi : i < l.length), f i = some l[i] := by
  intro n
  induction n with
  | zero => intro l h; simp at h; subst h; exact ⟨rfl, fun i hi => by simp at hi⟩
  | succ n ih =>
    intro l h
    rw [List.range_succ, List.mapM_append] at h
    cases h1 : (List.range n).mapM f with
    | none => rw [h1] at h; simp at h
    | some l1 =>
      rw [h1] at h
      cases h2 : f n with
      | none => simp [h2] at h
      | some x =>
        simp [h2] at h
        subst h
        obtain ⟨g1, g2⟩ := ih l1 h1
        refine ⟨by simp [g1], fun i hi => ?_⟩
        by_cases hin : i < l1.length
        · rw [g2 i hin]; simp [hin]
        · have : i = n := by simp at hi; omega
          subst this
          rw [h2]; simp [← g1]
theorem cells_at {W : World} {base : Nat} {a : Addr} {n : Nat} {cs : List Value} (h : W.cells? base a n = some cs) (hn : 0 < n) : a.spot = none ∧ cs.length = n ∧ (fzOf W).at a.block a.off cs := by
  unfold World.cells? at h
  split at h
  · obtain ⟨h1, h2⟩ := mapM_range _ n cs h
    have h0 := h2 0 (by omega)
    rw [show a.add 0 = a by simp [Addr.add]] at h0
    cases hb : W.heap[a.block]? with
    | none => simp [World.cell?, hb] at h0
    | some o =>
      cases o with
      | cells c e fr =>
        have hs : a.spot = none := by
          cases hq : a.spot with
          | none => rfl
          | some x => simp [World.cell?, hb, hq] at h0
        refine ⟨hs, h1, c, e, fr, hb, fun j v hj => ?_⟩
        obtain ⟨hj1, hj2⟩ := List.getElem?_eq_some_iff.1 hj
        have h3 := h2 j hj1
        have hb' : W.heap[(a.add j).block]? = some (.cells c e fr) := by rw [show (a.add j).block = a.block by unfold Addr.add; split <;> rfl]; exact hb
        have hsp : (a.add j).spot = none := by unfold Addr.add; split <;> simp_all
        have ho : (a.add j).off = a.off + j := by unfold Addr.add; split <;> simp_all
        simp [World.cell?, hb', hsp, ho] at h3
        rw [← hj2]; exact h3
      | _ => simp [World.cell?, hb] at h0
  · cases h
mutual
def wt : Tr → Nat
  | .mk _ s _ l u => 1 + s.length + wts l + wtu u
def wts : List Tr → Nat
  | [] => 0
  | x :: r => wt x + wts r
def wtu : List (Int × List UInt8) → Nat
  | [] => 0
  | x :: r => 1 + x.2.length + wtu r
end
theorem choose_list {α : Type} {R : Nat → α → Prop} : ∀ n, (∀ i, i < n → ∃ x, R i x) → ∃ l : List α, l.length = n ∧ ∀ i (hi : i < l.length), R i l[i]
  | 0, _ => ⟨[], rfl, fun i hi => by simp at hi⟩
  | n + 1, h => by
    obtain ⟨l, h1, h2⟩ := choose_list n (fun i hi => h i (by omega))
    obtain ⟨x, hx⟩ := h n (by omega)
    refine ⟨l ++ [x], by simp [h1], fun i hi => ?_⟩
    by_cases hin : i < l.length
    · rw [List.getElem_append_left hin]; exact h2 i hin
    · have : i = n := by simp at hi; omega
      subst this
      rw [List.getElem_append_right (by omega)]; simpa using hx
structure TreeTy (P : Program) (tT tG : Nat) (f0 f1 f2 f3 f4 g0 g1 : Field) : Prop where
  tree : P.underlying tT = some (.struct #[f0, f1, f2, f3, f4])
  off : f0.offset = 0 ∧ f1.offset = 1 ∧ f2.offset = 2 ∧ f3.offset = 3 ∧ f4.offset = 4
  one : P.cellsOf f0.type = 1 ∧ P.cellsOf f1.type = 1 ∧ P.cellsOf f2.type = 1 ∧ P.cellsOf f3.type = 1 ∧ P.cellsOf f4.type = 1
  cells : P.cellsOf tT = 5
  n : P.underlying f0.type = some (.int .i64)
  s : ∃ e, P.underlying f1.type = some (.slice e) ∧ P.underlying e = some (.int .u8) ∧ P.cellsOf e = 1
  nul : P.underlying f2.type = some .bool
  l : P.underlying f3.type = some (.slice tT)
  u : P.underlying f4.type = some (.slice tG)
  tag : P.underlying tG = some (.struct #[g0, g1])
  goff : g0.offset = 0 ∧ g1.offset = 1
  gone : P.cellsOf g0.type = 1 ∧ P.cellsOf g1.type = 1
  gcells : P.cellsOf tG = 2
  k : P.underlying g0.type = some (.int .u32)
  v : ∃ e, P.underlying g1.type = some (.slice e) ∧ P.underlying e = some (.int .u8) ∧ P.cellsOf e = 1
section
variable {H : Type} {enc : TypeId × Value → H} {P : Program} {W : World} {base : Nat} {sp : Nat → Bool} {held : Bool}
/-- A slice that is read: its elements in memory. -/
theorem trod_sl {t e sz fuel : Nat} {cs : List Value} {d : DataW H} {ps : List MemPlace} (hu : P.underlying t = some (.slice e)) (hc : P.cellsOf e = sz) (hz : 0 < sz) (h : DataW.trod enc P W base sp held fuel t cs = some (d, ps)) :
    (cs = [.slice none 0 0] ∧ d = .nil) ∨ ∃ a cap n, fuel = n + 1 ∧ ∃ (elems rest : List (DataW H × List MemPlace)), cs = [.slice (some a) elems.length cap] ∧ elems.length ≤ cap ∧ d = .slice (elems.map (·.1)) (rest.map (·.1)) ∧
      (elems ≠ [] → ∃ b o, a = ⟨b, o, none⟩ ∧ ∀ i (hi : i < elems.length), ∃ ds, ds.length = sz ∧ (fzOf W).at b (o + i * sz) ds ∧ DataW.trod enc P W base sp held n e ds = some elems[i]) := by
  rcases DataW.trod_slice hu h with ⟨h1, h2⟩ | ⟨a, len, cap, elems, rest, n, hf, rfl, h2, hb, hl, hm, hlen, hel, _, _⟩
  · exact .inl ⟨h1, by cases h2; rfl⟩
  · cases h2
    subst hlen
    refine .inr ⟨a, cap, n, hf, elems, rest, rfl, hl, rfl, fun hne => ?_⟩
    have step : ∀ i (hi : i < elems.length), ∃ ds, W.cells? base (a.add (i * sz)) sz = some ds ∧ DataW.trod enc P W base sp held n e ds = some elems[i] := by
      intro i hi
      have := hel i hi
      rw [hc, List.getElem?_eq_getElem hi, Option.bind_eq_some_iff] at this
      exact this
    have hpos : 0 < elems.length := List.length_pos_iff.2 hne
    obtain ⟨ds0, g1, _⟩ := step 0 hpos
    rw [Nat.zero_mul, show a.add 0 = a by simp [Addr.add]] at g1
    obtain ⟨hs, _, _⟩ := cells_at g1 hz
    obtain ⟨b, o, s⟩ := a
    simp only at hs
    subst hs
    refine ⟨b, o, rfl, fun i hi => ?_⟩
    obtain ⟨ds, g2, g3⟩ := step i hi
    rw [add_plain] at g2
    obtain ⟨_, g4, g5⟩ := cells_at g2 hz
    exact ⟨ds, g4, g5, g3⟩
def octOf (y : DataW H × List MemPlace) : UInt8 := match y.1 with | .lit (.int _ n) => UInt8.ofNat n.toNat | _ => 0
theorem at_bytes {F : Fz} {b o : Nat} {s : List UInt8} (hne : s ≠ []) (h : ∀ i (hi : i < s.length), F.at b (o + i * 1) [.int .u8 (s[i].toNat : Int)]) : F.at b o (bytesOf s) := by
  have hpos : 0 < s.length := List.length_pos_iff.2 hne
  obtain ⟨cs, e, fr, h1, _⟩ := h 0 hpos
  refine ⟨cs, e, fr, h1, fun j v hj => ?_⟩
  simp only [bytesOf, List.getElem?_map] at hj
  cases hq : s[j]? with
  | none => rw [hq] at hj; cases hj
  | some x =>
    rw [hq] at hj
    obtain ⟨hj1, hj2⟩ := List.getElem?_eq_some_iff.1 hq
    obtain ⟨cs', e', fr', h1', h2'⟩ := h j hj1
    rw [h1] at h1'
    cases h1'
    have := h2' 0 _ rfl
    rw [hj2] at this
    cases hj
    simpa using this
theorem bulk_len (l : List (DataW H)) : l.length ≤ Rows.uptoBulkAll l := by
  induction l with
  | nil => simp [Rows.uptoBulkAll]
  | cons x r ih =>
    have : 1 ≤ Rows.uptoBulk x := by
      cases x with
      | lit l => cases l <;> simp [Rows.uptoBulk]
      | _ => simp [Rows.uptoBulk]
    simp only [Rows.uptoBulkAll, List.length_cons]; omega
theorem trod_by {t e fuel : Nat} {cs : List Value} {d : DataW H} {ps : List MemPlace} (hu : P.underlying t = some (.slice e)) (he : P.underlying e = some (.int .u8)) (hc : P.cellsOf e = 1) (h : DataW.trod enc P W base sp held fuel t cs = some (d, ps)) (hk : Rows.uptoBulk d ≤ 1048576) :
    ∃ a c s, cs = [.slice a s.length c] ∧ BytesAt (fzOf W) a c s ∧ s.length + 1 ≤ Rows.uptoBulk d := by
  rcases trod_sl hu hc (by omega) h with ⟨rfl, rfl⟩ | ⟨a, cap, n, _, elems, rest, rfl, hl, rfl, hat⟩
  · exact ⟨none, 0, [], rfl, .nil _, by simp [Rows.uptoBulk]⟩
  · have hlen : elems.length + 1 ≤ Rows.uptoBulk (DataW.slice (elems.map (·.1)) (rest.map (·.1))) := by
      have := bulk_len (elems.map (·.1)); simp only [List.length_map] at this; simp only [Rows.uptoBulk]; omega
    refine ⟨some a, cap, elems.map octOf, by simp, ⟨fun hne => ?_, by simpa using hl, by simp [B47]; omega⟩, by simpa using hlen⟩
    obtain ⟨b, o, rfl, hel⟩ := hat (by rintro rfl; simp at hne)
    refine ⟨b, o, rfl, at_bytes hne fun i hi => ?_⟩
    have hi' : i < elems.length := by simpa using hi
    obtain ⟨ds, _, h2, h3⟩ := hel i hi'
    obtain ⟨m, rfl, h5, h6⟩ := DataW.trod_int he h3
    have hm : 0 ≤ m ∧ m ≤ 255 := by simpa [Lit.wf, IntKind.min, IntKind.max, IntKind.signed, IntKind.bits] using h6
    have e1 : (elems.map octOf)[i] = UInt8.ofNat m.toNat := by simp [octOf, h5]
    rw [e1]
    have e2 : (((UInt8.ofNat m.toNat).toNat : Nat) : Int) = m := by simp; omega
    rw [e2]; exact h2
theorem bulk_mem {l : List (DataW H)} {i : Nat} (hi : i < l.length) : Rows.uptoBulk l[i] ≤ Rows.uptoBulkAll l := by
  induction l generalizing i with
  | nil => simp at hi
  | cons x r ih =>
    cases i with
    | zero => simp [Rows.uptoBulkAll]
    | succ i => have := ih (i := i) (by simpa using hi); simp only [Rows.uptoBulkAll, List.getElem_cons_succ]; omega
theorem wts_le : ∀ (l : List Tr) (ds : List (DataW H)), l.length = ds.length → (∀ i (h1 : i < l.length) (h2 : i < ds.length), wt l[i] ≤ Rows.uptoBulk ds[i]) → wts l ≤ Rows.uptoBulkAll ds
  | [], ds, h, _ => by simp [wts]
  | x :: r, [], h, _ => by simp at h
  | x :: r, d :: ds, h, hp => by
    have h0 := hp 0 (by simp) (by simp)
    have := wts_le r ds (by simpa using h) (fun i h1 h2 => by have := hp (i + 1) (by simpa using h1) (by simpa using h2); simpa using this)
    simp only [wts, Rows.uptoBulkAll]; simp at h0; omega
theorem wtu_le : ∀ (l : List (Int × List UInt8)) (ds : List (DataW H)), l.length = ds.length → (∀ i (h1 : i < l.length) (h2 : i < ds.length), 1 + l[i].2.length ≤ Rows.uptoBulk ds[i]) → wtu l ≤ Rows.uptoBulkAll ds
  | [], ds, h, _ => by simp [wtu]
  | x :: r, [], h, _ => by simp at h
  | x :: r, d :: ds, h, hp => by
    have h0 := hp 0 (by simp) (by simp)
    have := wtu_le r ds (by simpa using h) (fun i h1 h2 => by have := hp (i + 1) (by simpa using h1) (by simpa using h2); simpa using this)
    simp only [wtu, Rows.uptoBulkAll]; simp at h0; omega
theorem two_of {α : Type} {l : List α} (h : l.length = 2) : ∃ x y, l = [x, y] := by
  match l, h with
  | [x, y], _ => exact ⟨x, y, rfl⟩
theorem five_of {α : Type} {l : List α} (h : l.length = 5) : ∃ a b c d e, l = [a, b, c, d, e] := by
  match l, h with
  | [a, b, c, d, e], _ => exact ⟨a, b, c, d, e, rfl⟩
variable {tT tG : Nat} {f0 f1 f2 f3 f4 g0 g1 : Field}
theorem trod_tag (hY : TreeTy P tT tG f0 f1 f2 f3 f4 g0 g1) {fuel : Nat} {cs : List Value} {d : DataW H} {ps : List MemPlace} (h : DataW.trod enc P W base sp held fuel tG cs = some (d, ps)) (hk : Rows.uptoBulk d ≤ 1048576) :
    ∃ (g : GC) (x : Int × List UInt8), cs = g.cells x ∧ TagAt (fzOf W) g x ∧ 1 + x.2.length ≤ Rows.uptoBulk d := by
  obtain ⟨xs, n, _, hx, hl, hlen, hf⟩ := DataW.trod_struct hY.tag h
  obtain ⟨y0, y1, rfl⟩ := two_of hlen
  have h0 := hf 0 g0 rfl
  have h1 := hf 1 g1 rfl
  simp only [List.getElem?_cons_zero, List.getElem?_cons_succ] at h0 h1
  cases hx
  rw [hY.gcells] at hl
  obtain ⟨c0, c1, rfl⟩ := two_of hl
  rw [hY.goff.1, hY.gone.1] at h0
  rw [hY.goff.2, hY.gone.2] at h1
  simp only [List.drop_zero, List.take_succ_cons, List.take_zero, List.drop_succ_cons] at h0 h1
  obtain ⟨m, hc0, _, hw⟩ := DataW.trod_int hY.k h0
  cases hc0
  obtain ⟨e, hu, he, hc⟩ := hY.v
  have hb1 : Rows.uptoBulk y1.1 + 1 ≤ Rows.uptoBulk (DataW.agg (List.map (fun x => x.1) [y0, y1])) := by simp only [List.map_cons, List.map_nil, Rows.uptoBulk, Rows.uptoBulkAll]; omega
  obtain ⟨a, c, s, hs, hB, hlen2⟩ := trod_by hu he hc h1 (by omega)
  cases hs
  have hm : 0 ≤ m ∧ m ≤ 4294967295 := by simpa [Lit.wf, IntKind.min, IntKind.max, IntKind.signed, IntKind.bits] using hw
  exact ⟨⟨a, c⟩, (m, s), rfl, ⟨hB, hm.1, by show m < _; omega⟩, by show 1 + s.length ≤ _; omega⟩
theorem trod_tree (hY : TreeTy P tT tG f0 f1 f2 f3 f4 g0 g1) : ∀ (fuel : Nat) (cs : List Value) (d : DataW H) (ps : List MemPlace), DataW.trod enc P W base sp held fuel tT cs = some (d, ps) → Rows.uptoBulk d ≤ 1048576 →
    ∃ (c : TC) (t : Tr), cs = c.cells t ∧ TreeAt (fzOf W) c t ∧ wt t ≤ Rows.uptoBulk d := by
  intro fuel
  induction fuel using Nat.strongRecOn with
  | _ fuel ih =>
  intro cs d ps h hk
  obtain ⟨xs, n, hfu, hx, hl, hlen, hf⟩ := DataW.trod_struct hY.tree h
  obtain ⟨y0, y1, y2, y3, y4, rfl⟩ := five_of hlen
  have h0 := hf 0 f0 rfl
  have h1 := hf 1 f1 rfl
  have h2 := hf 2 f2 rfl
  have h3 := hf 3 f3 rfl
  have h4 := hf 4 f4 rfl
  simp only [List.getElem?_cons_zero, List.getElem?_cons_succ] at h0 h1 h2 h3 h4
  cases hx
  rw [hY.cells] at hl
  obtain ⟨v0, v1, v2, v3, v4, rfl⟩ := five_of hl
  rw [hY.off.1, hY.one.1] at h0
  rw [hY.off.2.1, hY.one.2.1] at h1
  rw [hY.off.2.2.1, hY.one.2.2.1] at h2
  rw [hY.off.2.2.2.1, hY.one.2.2.2.1] at h3
  rw [hY.off.2.2.2.2, hY.one.2.2.2.2] at h4
  simp only [List.drop_zero, List.take_succ_cons, List.take_zero, List.drop_succ_cons] at h0 h1 h2 h3 h4
  have hbk : Rows.uptoBulk y0.1 + Rows.uptoBulk y1.1 + Rows.uptoBulk y2.1 + Rows.uptoBulk y3.1 + Rows.uptoBulk y4.1 + 1 = Rows.uptoBulk (DataW.agg (List.map (fun x => x.1) [y0, y1, y2, y3, y4])) := by
    simp only [List.map_cons, List.map_nil, Rows.uptoBulk, Rows.uptoBulkAll]; omega
  obtain ⟨m, hc0, _, _⟩ := DataW.trod_int hY.n h0
  cases hc0
  obtain ⟨e, hu, he, hc⟩ := hY.s
  obtain ⟨sa, sc, s, hs, hB, hsl⟩ := trod_by hu he hc h1 (by omega)
  cases hs
  obtain ⟨b, hb, _⟩ := DataW.trod_bool hY.nul h2
  cases hb
  have hlist : ∃ la lc l, [v3] = [.slice la l.length lc] ∧ TreesAt (fzOf W) la lc l ∧ wts l ≤ Rows.uptoBulk y3.1 := by
    rcases trod_sl (d := y3.1) (ps := y3.2) hY.l hY.cells (by omega) h3 with ⟨h5, _⟩ | ⟨a, cap, n', hn', elems, rest, h5, hle, h6, hat⟩
    · exact ⟨none, 0, [], h5, .nil _, by simp [wts]⟩
    · have hbe : Rows.uptoBulkAll (elems.map (·.1)) + 1 ≤ Rows.uptoBulk y3.1 := by rw [h6]; simp only [Rows.uptoBulk]; omega
      by_cases hne : elems = []
      · subst hne
        exact ⟨some a, cap, [], h5, ⟨fun hh => absurd rfl hh, by simp, by simp [B47]⟩, by simp [wts]⟩
      · obtain ⟨bb, o, rfl, hel⟩ := hat hne
        have hch : ∀ i, i < elems.length → ∃ p : TC × Tr, (∃ hi : i < elems.length, wt p.2 ≤ Rows.uptoBulk elems[i].1) ∧ (fzOf W).at bb (o + i * 5) (p.1.cells p.2) ∧ TreeAt (fzOf W) p.1 p.2 := by
          intro i hi
          obtain ⟨ds, _, g2, g3⟩ := hel i hi
          have hbi := bulk_mem (l := elems.map (·.1)) (i := i) (by simpa using hi)
          simp only [List.getElem_map] at hbi
          obtain ⟨c, t, rfl, g4, g5⟩ := ih n' (by omega) ds elems[i].1 elems[i].2 g3 (by omega)
          exact ⟨(c, t), ⟨hi, g5⟩, g2, g4⟩
        obtain ⟨l, hll, hl2⟩ := choose_list elems.length hch
        have hlenb := bulk_len (elems.map (·.1))
        simp only [List.length_map] at hlenb
        refine ⟨_, cap, l.map (·.2), by rw [h5]; simp [hll], ⟨fun _ => ⟨bb, o, rfl, fun i hi => ?_⟩, by simp [hll]; exact hle, by simp [hll, B47]; omega⟩, ?_⟩
        · have hi' : i < l.length := by simpa using hi
          obtain ⟨_, g2, g4⟩ := hl2 i hi'
          exact ⟨l[i].1, by simpa using g2, by simpa using g4⟩
        · have := wts_le (l.map (·.2)) (elems.map (·.1)) (by simp [hll]) (fun i g1 g2 => by
            obtain ⟨⟨_, g5⟩, _⟩ := hl2 i (by simpa using g1)
            simpa using g5)
          omega
  have htags : ∃ ua uc u, [v4] = [.slice ua u.length uc] ∧ TagsAt (fzOf W) ua uc u ∧ wtu u ≤ Rows.uptoBulk y4.1 := by
    rcases trod_sl (d := y4.1) (ps := y4.2) hY.u hY.gcells (by omega) h4 with ⟨h5, _⟩ | ⟨a, cap, n', hn', elems, rest, h5, hle, h6, hat⟩
    · exact ⟨none, 0, [], h5, .nil _, by simp [wtu]⟩
    · have hbe : Rows.uptoBulkAll (elems.map (·.1)) + 1 ≤ Rows.uptoBulk y4.1 := by rw [h6]; simp only [Rows.uptoBulk]; omega
      by_cases hne : elems = []
      · subst hne
        exact ⟨some a, cap, [], h5, ⟨fun hh => absurd rfl hh, by simp, by simp [B47]⟩, by simp [wtu]⟩
      · obtain ⟨bb, o, rfl, hel⟩ := hat hne
        have hch : ∀ i, i < elems.length → ∃ p : GC × (Int × List UInt8), (∃ hi : i < elems.length, 1 + p.2.2.length ≤ Rows.uptoBulk elems[i].1) ∧ (fzOf W).at bb (o + i * 2) (p.1.cells p.2) ∧ TagAt (fzOf W) p.1 p.2 := by
          intro i hi
          obtain ⟨ds, _, g2, g3⟩ := hel i hi
          have hbi := bulk_mem (l := elems.map (·.1)) (i := i) (by simpa using hi)
          simp only [List.getElem_map] at hbi
          obtain ⟨c, t, rfl, g4, g5⟩ := trod_tag hY (d := elems[i].1) (ps := elems[i].2) g3 (by omega)
          exact ⟨(c, t), ⟨hi, g5⟩, g2, g4⟩
        obtain ⟨l, hll, hl2⟩ := choose_list elems.length hch
        have hlenb := bulk_len (elems.map (·.1))
        simp only [List.length_map] at hlenb
        refine ⟨_, cap, l.map (·.2), by rw [h5]; simp [hll], ⟨fun _ => ⟨bb, o, rfl, fun i hi => ?_⟩, by simp [hll]; exact hle, by simp [hll, B47]; omega⟩, ?_⟩
        · have hi' : i < l.length := by simpa using hi
          obtain ⟨_, g2, g4⟩ := hl2 i hi'
          exact ⟨l[i].1, by simpa using g2, by simpa using g4⟩
        · have := wtu_le (l.map (·.2)) (elems.map (·.1)) (by simp [hll]) (fun i g1 g2 => by
            obtain ⟨⟨_, g5⟩, _⟩ := hl2 i (by simpa using g1)
            simpa using g5)
          omega
  obtain ⟨la, lc, l, h6, hL, hwl⟩ := hlist
  obtain ⟨ua, uc, u, h7, hU, hwu⟩ := htags
  cases h6
  cases h7
  refine ⟨⟨sa, sc, la, lc, ua, uc⟩, .mk m s b l u, rfl, TreeAt.of hB hL hU, ?_⟩
  simp only [wt]
  omega
end
end Go.Sx

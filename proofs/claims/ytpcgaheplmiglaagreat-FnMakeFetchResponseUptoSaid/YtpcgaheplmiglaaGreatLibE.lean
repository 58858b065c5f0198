import Derived.Test.YtpcgaheplmiglaaGreatRows
import Derived.Test.YtpcgaheplmiglaaGreatLibD
import Derived.WalkKit
import Derived.ProofKit
import Derived.OpenShut
import Derived.JoinedCond
import Derived.Below
import Derived.Carry
import Derived.ChangeSame
set_option linter.unusedVariables false
set_option linter.unusedSimpArgs false
/- From the row's reading to trees in memory. -/
namespace Go.Sx
open Go.Proofs.YtpcgaheplmiglaaGreat
def fzOf (W : World) : Fz := ⟨fun b => W.heap[b]?, W.os, W.tape, W.output⟩
theorem hp_start (W : World) : Hp (fzOf W) [] W := ⟨rfl, rfl, rfl, fun _ _ h => h, fun _ _ h => by simp at h, by simp⟩
theorem mapM_range {α : Type} (f : Nat → Option α) : ∀ (n : Nat) (l : List α), (List.range n).mapM f = some l → l.length = n ∧ ∀ i (hi : i < l.length), f i = some l[i] := by
  intro n
  induction n with
  | zero => intro l h; simp at h; subst h; exact ⟨rfl, fun i hi => by simp at hi⟩
  | succ n ih =>
    intro l h
    rw [List.range_succ, List.mapM_append] at h
    cases h1 : (List.range n).mapM f with
    | none => rw [h1] at h; simp at h
    | some l1 =>
      rw [h1] at h
      cases h2 : f n with
      | none => simp [h2] at h
      | some x =>
        simp [h2] at h
        subst h
        obtain ⟨g1, g2⟩ := ih l1 h1
        refine ⟨by simp [g1], fun i hi => ?_⟩
        by_cases hin : i < l1.length
        · rw [g2 i hin]; simp [hin]
        · have : i = n := by simp at hi; omega
          subst this
          rw [h2]; simp [← g1]
theorem cells_at {W : World} {base : Nat} {a : Addr} {n : Nat} {cs : List Value} (h : W.cells? base a n = some cs) (hn : 0 < n) : a.spot = none ∧ cs.length = n ∧ (fzOf W).at a.block a.off cs := by
  unfold World.cells? at h
  split at h
  · obtain ⟨h1, h2⟩ := mapM_range _ n cs h
    have h0 := h2 0 (by omega)
    rw [show a.add 0 = a by simp [Addr.add]] at h0
    cases hb : W.heap[a.block]? with
    | none => simp [World.cell?, hb] at h0
    | some o =>
      cases o with
      | cells c e fr =>
        have hs : a.spot = none := by
          cases hq : a.spot with
          | none => rfl
          | some x => simp [World.cell?, hb, hq] at h0
        refine ⟨hs, h1, c, e, fr, hb, fun j v hj => ?_⟩
        obtain ⟨hj1, hj2⟩ := List.getElem?_eq_some_iff.1 hj
        have h3 := h2 j hj1
        have hb' : W.heap[(a.add j).block]? = some (.cells c e fr) := by rw [show (a.add j).block = a.block by unfold Addr.add; split <;> rfl]; exact hb
        have hsp : (a.add j).spot = none := by unfold Addr.add; split <;> simp_all
        have ho : (a.add j).off = a.off + j := by unfold Addr.add; split <;> simp_all
        simp [World.cell?, hb', hsp, ho] at h3
        rw [← hj2]; exact h3
      | _ => simp [World.cell?, hb] at h0
  · cases h
mutual
def wt : Tr → Nat
  | .mk _ s _ l u => 1 + s.length + wts l + wtu u
def wts : List Tr → Nat
  | [] => 0
  | x :: r => wt x + wts r
def wtu : List (Int × List UInt8) → Nat
  | [] => 0
  | x :: r => 1 + x.2.length + wtu r
end
theorem choose_list {α : Type} {R : Nat → α → Prop} : ∀ n, (∀ i, i < n → ∃ x, R i x) → ∃ l : List α, l.length = n ∧ ∀ i (hi : i < l.length), R i l[i]
  | 0, _ => ⟨[], rfl, fun i hi => by simp at hi⟩
  | n + 1, h => by
    obtain ⟨l, h1, h2⟩ := choose_list n (fun i hi => h i (by omega))
    obtain ⟨x, hx⟩ := h n (by omega)
    refine ⟨l ++ [x], by simp [h1], fun i hi => ?_⟩
    by_cases hin : i < l.length
    · rw [List.getElem_append_left hin]; exact h2 i hin
    · have : i = n := by simp at hi; omega
      subst this
      rw [List.getElem_append_right (by omega)]; simpa using hx
structure TreeTy (P : Program) (tT tG : Nat) (f0 f1 f2 f3 f4 g0 g1 : Field) : Prop where
  tree : P.underlying tT = some (.struct #[f0, f1, f2, f3, f4])
  off : f0.offset = 0 ∧ f1.offset = 1 ∧ f2.offset = 2 ∧ f3.offset = 3 ∧ f4.offset = 4
  one : P.cellsOf f0.type = 1 ∧ P.cellsOf f1.type = 1 ∧ P.cellsOf f2.type = 1 ∧ P.cellsOf f3.type = 1 ∧ P.cellsOf f4.type = 1
  cells : P.cellsOf tT = 5
  n : P.underlying f0.type = some (.int .i64)
  s : ∃ e, P.underlying f1.type = some (.slice e) ∧ P.underlying e = some (.int .u8) ∧ P.cellsOf e = 1
  nul : P.underlying f2.type = some .bool
  l : P.underlying f3.type = some (.slice tT)
  u : P.underlying f4.type = some (.slice tG)
  tag : P.underlying tG = some (.struct #[g0, g1])
  goff : g0.offset = 0 ∧ g1.offset = 1
  gone : P.cellsOf g0.type = 1 ∧ P.cellsOf g1.type = 1
  gcells : P.cellsOf tG = 2
  k : P.underlying g0.type = some (.int .u32)
  v : ∃ e, P.underlying g1.type = some (.slice e) ∧ P.underlying e = some (.int .u8) ∧ P.cellsOf e = 1
section
variable {H : Type} {enc : TypeId × Value → H} {P : Program} {W : World} {base : Nat} {sp : Nat → Bool} {held : Bool}
/-- A slice that is read: its elements in memory. -/
theorem trod_sl {t e sz fuel : Nat} {cs : List Value} {d : DataW H} {ps : List MemPlace} (hu : P.underlying t = some (.slice e)) (hc : P.cellsOf e = sz) (hz : 0 < sz) (h : DataW.trod enc P W base sp held fuel t cs = some (d, ps)) :
    (cs = [.slice none 0 0] ∧ d = .nil) ∨ ∃ a cap n, fuel = n + 1 ∧ ∃ (elems rest : List (DataW H × List MemPlace)), cs = [.slice (some a) elems.length cap] ∧ elems.length ≤ cap ∧ d = .slice (elems.map (·.1)) (rest.map (·.1)) ∧
      (elems ≠ [] → ∃ b o, a = ⟨b, o, none⟩ ∧ ∀ i (hi : i < elems.length), ∃ ds, ds.length = sz ∧ (fzOf W).at b (o + i * sz) ds ∧ DataW.trod enc P W base sp held n e ds = some elems[i]) := by
  rcases DataW.trod_slice hu h with ⟨h1, h2⟩ | ⟨a, len, cap, elems, rest, n, hf, rfl, h2, hb, hl, hm, hlen, hel, _, _⟩
  · exact .inl ⟨h1, by cases h2; rfl⟩
  · cases h2
    subst hlen
    refine .inr ⟨a, cap, n, hf, elems, rest, rfl, hl, rfl, fun hne => ?_⟩
    have step : ∀ i (hi : i < elems.length), ∃ ds, W.cells? base (a.add (i * sz)) sz = some ds ∧ DataW.trod enc P W base sp held n e ds = some elems[i] := by
      intro i hi
      have := hel i hi
      rw [hc, List.getElem?_eq_getElem hi, Option.bind_eq_some_iff] at this
      exact this
    have hpos : 0 < elems.length := List.length_pos_iff.2 hne
    obtain ⟨ds0, g1, _⟩ := step 0 hpos
    rw [Nat.zero_mul, show a.add 0 = a by simp [Addr.add]] at g1
    obtain ⟨hs, _, _⟩ := cells_at g1 hz
    obtain ⟨b, o, s⟩ := a
    simp only at hs
    subst hs
    refine ⟨b, o, rfl, fun i hi => ?_⟩
    obtain ⟨ds, g2, g3⟩ := step i hi
    rw [add_plain] at g2
    obtain ⟨_, g4, g5⟩ := cells_at g2 hz
    exact ⟨ds, g4, g5, g3⟩
def octOf (y : DataW H × List MemPlace) : UInt8 := match y.1 with | .lit (.int _ n) => UInt8.ofNat n.toNat | _ => 0
theorem at_bytes {F : Fz} {b o : Nat} {s : List UInt8} (hne : s ≠ []) (h : ∀ i (hi : i < s.length), F.at b (o + i * 1) [.int .u8 (s[i].toNat : Int)]) : F.at b o (bytesOf s) := by
  have hpos : 0 < s.length := List.length_pos_iff.2 hne
  obtain ⟨cs, e, fr, h1, _⟩ := h 0 hpos
  refine ⟨cs, e, fr, h1, fun j v hj => ?_⟩
  simp only [bytesOf, List.getElem?_map] at hj
  cases hq : s[j]? with
  | none => rw [hq] at hj; cases hj
  | some x =>
    rw [hq] at hj
    obtain ⟨hj1, hj2⟩ := List.getElem?_eq_some_iff.1 hq
    obtain ⟨cs', e', fr', h1', h2'⟩ := h j hj1
    rw [h1] at h1'
    cases h1'
    have := h2' 0 _ rfl
    rw [hj2] at this
    cases hj
    simpa using this
theorem bulk_len (l : List (DataW H)) : l.length ≤ Rows.uptoBulkAll l := by
  induction l with
  | nil => simp [Rows.uptoBulkAll]
  | cons x r ih =>
    have : 1 ≤ Rows.uptoBulk x := by
      cases x with
      | lit l => cases l <;> simp [Rows.uptoBulk]
      | _ => simp [Rows.uptoBulk]
    simp only [Rows.uptoBulkAll, List.length_cons]; omega
theorem trod_by {t e fuel : Nat} {cs : List Value} {d : DataW H} {ps : List MemPlace} (hu : P.underlying t = some (.slice e)) (he : P.underlying e = some (.int .u8)) (hc : P.cellsOf e = 1) (h : DataW.trod enc P W base sp held fuel t cs = some (d, ps)) (hk : Rows.uptoBulk d ≤ 1048576) :
    ∃ a c s, cs = [.slice a s.length c] ∧ BytesAt (fzOf W) a c s ∧ s.length + 1 ≤ Rows.uptoBulk d := by
  rcases trod_sl hu hc (by omega) h with ⟨rfl, rfl⟩ | ⟨a, cap, n, _, elems, rest, rfl, hl, rfl, hat⟩
  · exact ⟨none, 0, [], rfl, .nil _, by simp [Rows.uptoBulk]⟩
  · have hlen : elems.length + 1 ≤ Rows.uptoBulk (DataW.slice (elems.map (·.1)) (rest.map (·.1))) := by
      have := bulk_len (elems.map (·.1)); simp only [List.length_map] at this; simp only [Rows.uptoBulk]; omega
    refine ⟨some a, cap, elems.map octOf, by simp, ⟨fun hne => ?_, by simpa using hl, by simp [B47]; omega⟩, by simpa using hlen⟩
    obtain ⟨b, o, rfl, hel⟩ := hat (by rintro rfl; simp at hne)
    refine ⟨b, o, rfl, at_bytes hne fun i hi => ?_⟩
    have hi' : i < elems.length := by simpa using hi
    obtain ⟨ds, _, h2, h3⟩ := hel i hi'
    obtain ⟨m, rfl, h5, h6⟩ := DataW.trod_int he h3
    have hm : 0 ≤ m ∧ m ≤ 255 := by simpa [Lit.wf, IntKind.min, IntKind.max, IntKind.signed, IntKind.bits] using h6
    have e1 : (elems.map octOf)[i] = UInt8.ofNat m.toNat := by simp [octOf, h5]
    rw [e1]
    have e2 : (((UInt8.ofNat m.toNat).toNat : Nat) : Int) = m := by simp; omega
    rw [e2]; exact h2
theorem bulk_mem {l : List (DataW H)} {i : Nat} (hi : i < l.length) : Rows.uptoBulk l[i] ≤ Rows.uptoBulkAll l := by
  induction l generalizing i with
  | nil => simp at hi
  | cons x r ih =>
    cases i with
    | zero => simp [Rows.uptoBulkAll]
    | succ i => have := ih (i := i) (by simpa using hi); simp only [Rows.uptoBulkAll, List.getElem_cons_succ]; omega
theorem wts_le : ∀ (l : List Tr) (ds : List (DataW H)), l.length = ds.length → (∀ i (h1 : i < l.length) (h2 : i < ds.length), wt l[i] ≤ Rows.uptoBulk ds[i]) → wts l ≤ Rows.uptoBulkAll ds
  | [], ds, h, _ => by simp [wts]
  | x :: r, [], h, _ => by simp at h
  | x :: r, d :: ds, h, hp => by
    have h0 := hp 0 (by simp) (by simp)
    have := wts_le r ds (by simpa using h) (fun i h1 h2 => by have := hp (i + 1) (by simpa using h1) (by simpa using h2); simpa using this)
    simp only [wts, Rows.uptoBulkAll]; simp at h0; omega
theorem wtu_le : ∀ (l : List (Int × List UInt8)) (ds : List (DataW H)), l.length = ds.length → (∀ i (h1 : i < l.length) (h2 : i < ds.length), 1 + l[i].2.length ≤ Rows.uptoBulk ds[i]) → wtu l ≤ Rows.uptoBulkAll ds
  | [], ds, h, _ => by simp [wtu]
  | x :: r, [], h, _ => by simp at h
  | x :: r, d :: ds, h, hp => by
    have h0 := hp 0 (by simp) (by simp)
    have := wtu_le r ds (by simpa using h) (fun i h1 h2 => by have := hp (i + 1) (by simpa using h1) (by simpa using h2); simpa using this)
    simp only [wtu, Rows.uptoBulkAll]; simp at h0; omega
theorem two_of {α : Type} {l : List α} (h : l.length = 2) : ∃ x y, l = [x, y] := by
  match l, h with
  | [x, y], _ => exact ⟨x, y, rfl⟩
theorem five_of {α : Type} {l : List α} (h : l.length = 5) : ∃ a b c d e, l = [a, b, c, d, e] := by
  match l, h with
  | [a, b, c, d, e], _ => exact ⟨a, b, c, d, e, rfl⟩
variable {tT tG : Nat} {f0 f1 f2 f3 f4 g0 g1 : Field}
theorem trod_tag (hY : TreeTy P tT tG f0 f1 f2 f3 f4 g0 g1) {fuel : Nat} {cs : List Value} {d : DataW H} {ps : List MemPlace} (h : DataW.trod enc P W base sp held fuel tG cs = some (d, ps)) (hk : Rows.uptoBulk d ≤ 1048576) :
    ∃ (g : GC) (x : Int × List UInt8), cs = g.cells x ∧ TagAt (fzOf W) g x ∧ 1 + x.2.length ≤ Rows.uptoBulk d := by
  obtain ⟨xs, n, _, hx, hl, hlen, hf⟩ := DataW.trod_struct hY.tag h
  obtain ⟨y0, y1, rfl⟩ := two_of hlen
  have h0 := hf 0 g0 rfl
  have h1 := hf 1 g1 rfl
  simp only [List.getElem?_cons_zero, List.getElem?_cons_succ] at h0 h1
  cases hx
  rw [hY.gcells] at hl
  obtain ⟨c0, c1, rfl⟩ := two_of hl
  rw [hY.goff.1, hY.gone.1] at h0
  rw [hY.goff.2, hY.gone.2] at h1
  simp only [List.drop_zero, List.take_succ_cons, List.take_zero, List.drop_succ_cons] at h0 h1
  obtain ⟨m, hc0, _, hw⟩ := DataW.trod_int hY.k h0
  cases hc0
  obtain ⟨e, hu, he, hc⟩ := hY.v
  have hb1 : Rows.uptoBulk y1.1 + 1 ≤ Rows.uptoBulk (DataW.agg (List.map (fun x => x.1) [y0, y1])) := by simp only [List.map_cons, List.map_nil, Rows.uptoBulk, Rows.uptoBulkAll]; omega
  obtain ⟨a, c, s, hs, hB, hlen2⟩ := trod_by hu he hc h1 (by omega)
  cases hs
  have hm : 0 ≤ m ∧ m ≤ 4294967295 := by simpa [Lit.wf, IntKind.min, IntKind.max, IntKind.signed, IntKind.bits] using hw
  exact ⟨⟨a, c⟩, (m, s), rfl, ⟨hB, hm.1, by show m < _; omega⟩, by show 1 + s.length ≤ _; omega⟩
/-- The numbers lie in their range. -/
inductive RanN : Tr → Prop
  | mk (t : Tr) (hn : -9223372036854775808 ≤ t.n ∧ t.n ≤ 9223372036854775807) (hl : ∀ x ∈ t.l, RanN x) : RanN t
theorem trod_tree2 (hY : TreeTy P tT tG f0 f1 f2 f3 f4 g0 g1) : ∀ (fuel : Nat) (cs : List Value) (d : DataW H) (ps : List MemPlace), DataW.trod enc P W base sp held fuel tT cs = some (d, ps) → Rows.uptoBulk d ≤ 1048576 →
    ∃ (c : TC) (t : Tr), cs = c.cells t ∧ TreeAt (fzOf W) c t ∧ wt t ≤ Rows.uptoBulk d ∧ RanN t := by
  intro fuel
  induction fuel using Nat.strongRecOn with
  | _ fuel ih =>
  intro cs d ps h hk
  obtain ⟨xs, n, hfu, hx, hl, hlen, hf⟩ := DataW.trod_struct hY.tree h
  obtain ⟨y0, y1, y2, y3, y4, rfl⟩ := five_of hlen
  have h0 := hf 0 f0 rfl
  have h1 := hf 1 f1 rfl
  have h2 := hf 2 f2 rfl
  have h3 := hf 3 f3 rfl
  have h4 := hf 4 f4 rfl
  simp only [List.getElem?_cons_zero, List.getElem?_cons_succ] at h0 h1 h2 h3 h4
  cases hx
  rw [hY.cells] at hl
  obtain ⟨v0, v1, v2, v3, v4, rfl⟩ := five_of hl
  rw [hY.off.1, hY.one.1] at h0
  rw [hY.off.2.1, hY.one.2.1] at h1
  rw [hY.off.2.2.1, hY.one.2.2.1] at h2
  rw [hY.off.2.2.2.1, hY.one.2.2.2.1] at h3
  rw [hY.off.2.2.2.2, hY.one.2.2.2.2] at h4
  simp only [List.drop_zero, List.take_succ_cons, List.take_zero, List.drop_succ_cons] at h0 h1 h2 h3 h4
  have hbk : Rows.uptoBulk y0.1 + Rows.uptoBulk y1.1 + Rows.uptoBulk y2.1 + Rows.uptoBulk y3.1 + Rows.uptoBulk y4.1 + 1 = Rows.uptoBulk (DataW.agg (List.map (fun x => x.1) [y0, y1, y2, y3, y4])) := by
    simp only [List.map_cons, List.map_nil, Rows.uptoBulk, Rows.uptoBulkAll]; omega
  obtain ⟨m, hc0, _, hwm⟩ := DataW.trod_int hY.n h0
  cases hc0
  obtain ⟨e, hu, he, hc⟩ := hY.s
  obtain ⟨sa, sc, s, hs, hB, hsl⟩ := trod_by hu he hc h1 (by omega)
  cases hs
  obtain ⟨b, hb, _⟩ := DataW.trod_bool hY.nul h2
  cases hb
  have hlist : ∃ la lc l, [v3] = [.slice la l.length lc] ∧ TreesAt (fzOf W) la lc l ∧ wts l ≤ Rows.uptoBulk y3.1 ∧ ∀ x ∈ l, RanN x := by
    rcases trod_sl (d := y3.1) (ps := y3.2) hY.l hY.cells (by omega) h3 with ⟨h5, _⟩ | ⟨a, cap, n', hn', elems, rest, h5, hle, h6, hat⟩
    · exact ⟨none, 0, [], h5, .nil _, by simp [wts], fun x hx => by cases hx⟩
    · have hbe : Rows.uptoBulkAll (elems.map (·.1)) + 1 ≤ Rows.uptoBulk y3.1 := by rw [h6]; simp only [Rows.uptoBulk]; omega
      by_cases hne : elems = []
      · subst hne
        exact ⟨some a, cap, [], h5, ⟨fun hh => absurd rfl hh, by simp, by simp [B47]⟩, by simp [wts], fun x hx => by cases hx⟩
      · obtain ⟨bb, o, rfl, hel⟩ := hat hne
        have hch : ∀ i, i < elems.length → ∃ p : TC × Tr, (∃ hi : i < elems.length, wt p.2 ≤ Rows.uptoBulk elems[i].1 ∧ RanN p.2) ∧ (fzOf W).at bb (o + i * 5) (p.1.cells p.2) ∧ TreeAt (fzOf W) p.1 p.2 := by
          intro i hi
          obtain ⟨ds, _, g2, g3⟩ := hel i hi
          have hbi := bulk_mem (l := elems.map (·.1)) (i := i) (by simpa using hi)
          simp only [List.getElem_map] at hbi
          obtain ⟨c, t, rfl, g4, g5⟩ := ih n' (by omega) ds elems[i].1 elems[i].2 g3 (by omega)
          exact ⟨(c, t), ⟨hi, g5⟩, g2, g4⟩
        obtain ⟨l, hll, hl2⟩ := choose_list elems.length hch
        have hlenb := bulk_len (elems.map (·.1))
        simp only [List.length_map] at hlenb
        refine ⟨_, cap, l.map (·.2), by rw [h5]; simp [hll], ⟨fun _ => ⟨bb, o, rfl, fun i hi => ?_⟩, by simp [hll]; exact hle, by simp [hll, B47]; omega⟩, ?_, fun x hx => ?_⟩
        · have hi' : i < l.length := by simpa using hi
          obtain ⟨_, g2, g4⟩ := hl2 i hi'
          exact ⟨l[i].1, by simpa using g2, by simpa using g4⟩
        · have := wts_le (l.map (·.2)) (elems.map (·.1)) (by simp [hll]) (fun i g1 g2 => by
            obtain ⟨⟨_, g5, _⟩, _⟩ := hl2 i (by simpa using g1)
            simpa using g5)
          omega
        · obtain ⟨y, hy, rfl⟩ := List.mem_map.1 hx
          obtain ⟨i, hi, rfl⟩ := List.getElem_of_mem hy
          obtain ⟨⟨_, _, g6⟩, _⟩ := hl2 i hi
          exact g6
  have htags : ∃ ua uc u, [v4] = [.slice ua u.length uc] ∧ TagsAt (fzOf W) ua uc u ∧ wtu u ≤ Rows.uptoBulk y4.1 := by
    rcases trod_sl (d := y4.1) (ps := y4.2) hY.u hY.gcells (by omega) h4 with ⟨h5, _⟩ | ⟨a, cap, n', hn', elems, rest, h5, hle, h6, hat⟩
    · exact ⟨none, 0, [], h5, .nil _, by simp [wtu]⟩
    · have hbe : Rows.uptoBulkAll (elems.map (·.1)) + 1 ≤ Rows.uptoBulk y4.1 := by rw [h6]; simp only [Rows.uptoBulk]; omega
      by_cases hne : elems = []
      · subst hne
        exact ⟨some a, cap, [], h5, ⟨fun hh => absurd rfl hh, by simp, by simp [B47]⟩, by simp [wtu]⟩
      · obtain ⟨bb, o, rfl, hel⟩ := hat hne
        have hch : ∀ i, i < elems.length → ∃ p : GC × (Int × List UInt8), (∃ hi : i < elems.length, 1 + p.2.2.length ≤ Rows.uptoBulk elems[i].1) ∧ (fzOf W).at bb (o + i * 2) (p.1.cells p.2) ∧ TagAt (fzOf W) p.1 p.2 := by
          intro i hi
          obtain ⟨ds, _, g2, g3⟩ := hel i hi
          have hbi := bulk_mem (l := elems.map (·.1)) (i := i) (by simpa using hi)
          simp only [List.getElem_map] at hbi
          obtain ⟨c, t, rfl, g4, g5⟩ := trod_tag hY (d := elems[i].1) (ps := elems[i].2) g3 (by omega)
          exact ⟨(c, t), ⟨hi, g5⟩, g2, g4⟩
        obtain ⟨l, hll, hl2⟩ := choose_list elems.length hch
        have hlenb := bulk_len (elems.map (·.1))
        simp only [List.length_map] at hlenb
        refine ⟨_, cap, l.map (·.2), by rw [h5]; simp [hll], ⟨fun _ => ⟨bb, o, rfl, fun i hi => ?_⟩, by simp [hll]; exact hle, by simp [hll, B47]; omega⟩, ?_⟩
        · have hi' : i < l.length := by simpa using hi
          obtain ⟨_, g2, g4⟩ := hl2 i hi'
          exact ⟨l[i].1, by simpa using g2, by simpa using g4⟩
        · have := wtu_le (l.map (·.2)) (elems.map (·.1)) (by simp [hll]) (fun i g1 g2 => by
            obtain ⟨⟨_, g5⟩, _⟩ := hl2 i (by simpa using g1)
            simpa using g5)
          omega
  obtain ⟨la, lc, l, h6, hL, hwl, hrl⟩ := hlist
  obtain ⟨ua, uc, u, h7, hU, hwu⟩ := htags
  cases h6
  cases h7
  have hm : -9223372036854775808 ≤ m ∧ m ≤ 9223372036854775807 := by simpa [Lit.wf, IntKind.min, IntKind.max, IntKind.signed, IntKind.bits] using hwm
  refine ⟨⟨sa, sc, la, lc, ua, uc⟩, .mk m s b l u, rfl, TreeAt.of hB hL hU, ?_, .mk _ hm hrl⟩
  simp only [wt]
  omega
theorem trod_tree (hY : TreeTy P tT tG f0 f1 f2 f3 f4 g0 g1) (fuel : Nat) (cs : List Value) (d : DataW H) (ps : List MemPlace) (h : DataW.trod enc P W base sp held fuel tT cs = some (d, ps)) (hk : Rows.uptoBulk d ≤ 1048576) :
    ∃ (c : TC) (t : Tr), cs = c.cells t ∧ TreeAt (fzOf W) c t ∧ wt t ≤ Rows.uptoBulk d := by
  obtain ⟨c, t, h1, h2, h3, _⟩ := trod_tree2 hY fuel cs d ps h hk
  exact ⟨c, t, h1, h2, h3⟩
end
end Go.Sx
/- How long what is written can be: at most a number of the schema times the tree's weight. -/
namespace Go.Sx
theorem uvar_64 : ∀ (n m : Nat), m ≤ n → (uvar m).length ≤ m / 64 + 1 := by
  intro n
  induction n with
  | zero => intro m h; have : m = 0 := by omega
            subst this; rw [uvar]; simp
  | succ n ih =>
    intro m h
    rw [uvar]
    split
    · have := ih (m / 128) (by omega)
      simp only [List.length_cons]; omega
    · simp
theorem uvar64 (m : Nat) : (uvar m).length ≤ m / 64 + 1 := uvar_64 m m (Nat.le_refl _)
theorem wt_pos (t : Tr) : 1 ≤ wt t := by cases t; simp only [wt]; omega
theorem wt_s (t : Tr) : t.s.length + 1 ≤ wt t := by cases t; simp only [wt, Tr.s]; omega
theorem wt_l (t : Tr) : wts t.l + 1 ≤ wt t := by cases t; simp only [wt, Tr.l]; omega
theorem wt_u (t : Tr) : wtu t.u + 1 ≤ wt t := by cases t; simp only [wt, Tr.u]; omega
theorem wts_mem {x : Tr} : ∀ {l : List Tr}, x ∈ l → wt x ≤ wts l
  | y :: r, h => by
    simp only [wts]
    rcases List.mem_cons.1 h with rfl | h
    · omega
    · have := wts_mem h; omega
theorem wt_at (t : Tr) (i : Nat) : wt (t.at i) ≤ wt t := by
  unfold Tr.at
  cases hq : t.l[i]? with
  | none => exact wt_pos t
  | some x => have h1 := wts_mem (List.mem_of_getElem? hq); have h2 := wt_l t; show wt x ≤ _; omega
theorem wts_take (l : List Tr) (k : Nat) : wts (l.take k) ≤ wts l := by
  induction l generalizing k with
  | nil => simp [wts]
  | cons x r ih => cases k with
    | zero => simp [wts]
    | succ k => simp only [List.take_succ_cons, wts]; have := ih k; omega
theorem wtu_take (l : List (Int × List UInt8)) (k : Nat) : wtu (l.take k) ≤ wtu l := by
  induction l generalizing k with
  | nil => simp [wtu]
  | cons x r ih => cases k with
    | zero => simp [wtu]
    | succ k => simp only [List.take_succ_cons, wtu]; have := ih k; omega
theorem wtu_insTag (k : Int) (v : List UInt8) : ∀ l, wtu (insTag k v l) ≤ wtu l + 1 + v.length
  | [] => by simp [insTag, wtu]
  | (k', v') :: r => by
    simp only [insTag]
    split
    · simp only [wtu]; have := wtu_insTag k v r; omega
    · split <;> simp only [wtu] <;> omega
theorem wtu_unknownFrom (least : Int) : ∀ (us acc : List (Int × List UInt8)), wtu (unknownFrom least acc us) ≤ wtu acc + wtu us
  | [], acc => by simp [unknownFrom, wtu]
  | (k, v) :: us, acc => by
    simp only [unknownFrom, wtu]
    split
    · have := wtu_unknownFrom least us acc; omega
    · have h1 := wtu_unknownFrom least us (insTag k v acc)
      have h2 := wtu_insTag k v acc
      omega
theorem wtu_unknown (fs : List Fd) (us : List (Int × List UInt8)) : wtu (unknown fs us) ≤ wtu us := by
  unfold unknown
  have h1 := wtu_unknownFrom (known fs) (us.take most) []
  have h2 := wtu_take us most
  simp only [wtu] at h1; omega
theorem mem_insTag {k : Int} {v : List UInt8} {x : Int × List UInt8} : ∀ {l}, x ∈ insTag k v l → x = (k, v) ∨ x ∈ l
  | [], h => by simp [insTag] at h; exact .inl h
  | (k', v') :: r, h => by
    simp only [insTag] at h
    split at h
    · rcases List.mem_cons.1 h with rfl | h
      · exact .inr List.mem_cons_self
      · rcases mem_insTag h with h | h
        · exact .inl h
        · exact .inr (List.mem_cons_of_mem _ h)
    · split at h
      · exact .inr h
      · rcases List.mem_cons.1 h with rfl | h
        · exact .inl rfl
        · exact .inr h
theorem mem_unknownFrom {least : Int} {x : Int × List UInt8} : ∀ {us acc}, x ∈ unknownFrom least acc us → x ∈ acc ∨ x ∈ us
  | [], acc, h => .inl h
  | (k, v) :: us, acc, h => by
    simp only [unknownFrom] at h
    rcases mem_unknownFrom h with h | h
    · split at h
      · exact .inl h
      · rcases mem_insTag h with rfl | h
        · exact .inr List.mem_cons_self
        · exact .inl h
    · exact .inr (List.mem_cons_of_mem _ h)
theorem mem_unknown {fs : List Fd} {us : List (Int × List UInt8)} {x : Int × List UInt8} (h : x ∈ unknown fs us) : x ∈ us := by
  rcases mem_unknownFrom h with h | h
  · cases h
  · exact List.mem_of_mem_take h
inductive KeyOK : Tr → Prop
  | mk (t : Tr) (hu : ∀ x ∈ t.u, x.1.toNat < 4294967296) (hl : ∀ x ∈ t.l, KeyOK x) : KeyOK t
mutual
def costF : Fd → Nat
  | .mk kind _ _ _ _ _ of sub => 26 + (if kind = 10 ∨ of = 10 then costFs sub else 0)
def costFs : List Fd → Nat
  | [] => 60
  | f :: r => (if f.tag < 0 then costF f else 2 * (costF f + costF f / 64 + f.tag.toNat + 40)) + costFs r
end
def subCost (f : Fd) : Nat := if f.kind = 10 ∨ f.of = 10 then costFs f.sub else 0
theorem costF_eq (f : Fd) : costF f = 26 + subCost f := by cases f; rw [costF]; rfl
theorem le_mul (k n : Nat) (hn : 1 ≤ n) : k ≤ k * n := Nat.le_mul_of_pos_right k hn
/-- a value, if the part is bounded -/
theorem valueB_cost {kind : Int} {part : Tr → List UInt8} {nul flex : Bool} {t : Tr} {K : Nat} (hp : kind = 10 → (part t).length ≤ K * wt t) : (valueB kind part nul flex t).length ≤ (16 + K) * wt t := by
  have h1 := wt_pos t
  have h2 := wt_s t
  have hw := whole_len t.s
  rw [Nat.add_mul]
  have hc : ∀ size, size ≤ 8 → ∀ s : List UInt8, s = [] ∨ s = whole t.s → (counted flex nul s.length size ++ s).length ≤ 16 * wt t := by
    intro size hs s h
    have : s.length ≤ min t.s.length 32767 := by
      rcases h with rfl | rfl
      · simp
      · omega
    have := counted_len (flex := flex) (nul := nul) (n := s.length) (size := size) (by omega) hs
    rw [List.length_append]; omega
  unfold valueB
  split
  · simp; omega
  · split
    · simp only [List.length_append, List.length_take, List.length_replicate]; omega
    · split
      · have := hc 2 (by omega) (if nul then [] else whole t.s) (by cases nul <;> simp); simp only at this ⊢; omega
      · split
        · have := hc 4 (by omega) (if nul then [] else whole t.s) (by cases nul <;> simp); simp only at this ⊢; omega
        · split
          · have := hp (by assumption); omega
          · rw [fixed_length]; have := width_le kind; omega
theorem flatMap_cost {g : Tr → List UInt8} {K : Nat} : ∀ l : List Tr, (∀ x ∈ l, (g x).length ≤ K * wt x) → (l.flatMap g).length ≤ K * wts l
  | [], _ => by simp
  | x :: r, h => by
    have h1 := h x List.mem_cons_self
    have h2 := flatMap_cost r (fun y hy => h y (List.mem_cons_of_mem _ hy))
    simp only [List.flatMap_cons, List.length_append, wts, Nat.mul_add]; omega
theorem KeyOK.l {t x : Tr} (h : KeyOK t) (hx : x ∈ t.l) : KeyOK x := by cases h with | mk _ _ hl => exact hl x hx
theorem KeyOK.at {t : Tr} (h : KeyOK t) (i : Nat) : KeyOK (t.at i) := by
  unfold Tr.at
  cases hq : t.l[i]? with
  | none => exact .mk _ (fun x hx => by simp [Tr.u, Tr.none] at hx) (fun x hx => by simp [Tr.l, Tr.none] at hx)
  | some x => exact h.l (List.mem_of_getElem? hq)
/-- a field, if its parts are bounded -/
theorem fieldB_cost {f : Fd} {v : Int} {flex : Bool} (hp : ∀ t, KeyOK t → (partB f.sub v flex t).length ≤ costFs f.sub * wt t) {t : Tr} (ht : KeyOK t) : (fieldB f v flex t).length ≤ costF f * wt t := by
  have h1 := wt_pos t
  have hin : f.kind = 10 ∨ f.of = 10 → subCost f = costFs f.sub := fun h => if_pos h
  rw [fieldB_eq, costF_eq]
  unfold fieldB'
  split
  · have hl : ∀ l : List Tr, (l = [] ∨ l = t.things) → (counted flex (f.isNul v t) l.length 4 ++ l.flatMap (valueB f.of (partB f.sub v flex) false flex)).length ≤ (26 + subCost f) * wt t := by
      intro l hl
      have hlen : l.length ≤ 32767 := by
        rcases hl with rfl | rfl
        · simp
        · show (t.l.take most).length ≤ _; rw [take_most_len]; omega
      have hc := counted_len (flex := flex) (nul := f.isNul v t) (n := l.length) (size := 4) hlen (by omega)
      have hm : ∀ x ∈ l, x ∈ t.l := by
        rcases hl with rfl | rfl
        · simp
        · exact fun x hx => List.mem_of_mem_take hx
      have hf := flatMap_cost (g := valueB f.of (partB f.sub v flex) false flex) (K := 16 + subCost f) l (fun x hx => valueB_cost (fun h10 => by have := hp x (ht.l (hm x hx)); rwa [← hin (.inr h10)] at this))
      have hw : wts l ≤ wts t.l := by
        rcases hl with rfl | rfl
        · simp [wts]
        · exact wts_take _ _
      have h2 := wt_l t
      have h3 : (16 + subCost f) * wts l ≤ (16 + subCost f) * wt t := Nat.mul_le_mul_left _ (by omega)
      have e : (26 + subCost f) * wt t = 10 * wt t + (16 + subCost f) * wt t := by rw [← Nat.add_mul]; congr 1; omega
      rw [List.length_append, e]; omega
    cases hn : f.isNul v t with
    | true => simpa [hn] using hl [] (.inl rfl)
    | false => simpa [hn] using hl t.things (.inr rfl)
  · have e : (26 + subCost f) * wt t = 26 * wt t + subCost f * wt t := Nat.add_mul _ _ _
    split
    · show (if f.isNul v t = true then fixed (-1) 1 else fixed 1 1 ++ partB f.sub v flex t).length ≤ _
      split
      · rw [fixed_length]; omega
      · rename_i h10 _
        have hpt := hp t ht
        rw [← hin (.inl h10.1)] at hpt
        rw [List.length_append, fixed_length]; omega
    · show (valueB f.kind (partB f.sub v flex) (f.isNul v t) flex t).length ≤ _
      have := valueB_cost (kind := f.kind) (nul := f.isNul v t) (flex := flex) (K := subCost f) (t := t) (part := partB f.sub v flex) (fun h10 => by have := hp t ht; rwa [← hin (.inl h10)] at this)
      have e2 : (16 + subCost f) * wt t = 16 * wt t + subCost f * wt t := Nat.add_mul _ _ _
      omega
/-! ### A part -/
def plainCost : List Fd → Nat
  | [] => 0
  | f :: r => (if f.tag < 0 then costF f else 0) + plainCost r
def tagCost : List Fd → Nat
  | [] => 0
  | f :: r => (if f.tag < 0 then 0 else costF f + costF f / 64 + f.tag.toNat + 40) + tagCost r
theorem costFs_eq (fs : List Fd) : costFs fs = 60 + plainCost fs + 2 * tagCost fs := by
  induction fs with
  | nil => rw [costFs]; rfl
  | cons f r ih => rw [costFs, ih]; simp only [plainCost, tagCost]; split <;> omega
def GT (n : Nat) (x : ZF) : Nat := ((List.range n).filterMap (fun tg => tagP tg x)).flatten.length
theorem GT_le (n : Nat) (x : ZF) : GT n x ≤ if x.1.tag < 0 then 0 else if x.1.tag < (n : Int) then (tagB x.1.tag.toNat x.2.1).length else 0 := by
  induction n with
  | zero => simp [GT]
  | succ n ih =>
    unfold GT at ih ⊢
    rw [List.range_succ, List.filterMap_append, List.flatten_append, List.length_append]
    by_cases h : x.1.tag = (n : Int)
    · have hn : ¬ x.1.tag < 0 := by omega
      rw [if_neg hn, if_neg (by omega)] at ih
      rw [if_neg hn, if_pos (by omega)]
      have e : x.1.tag.toNat = n := by omega
      rw [e]
      have : (List.filterMap (fun tg => tagP tg x) [n]).flatten.length ≤ (tagB n x.2.1).length := by
        simp only [tagP, List.filterMap_cons, List.filterMap_nil]
        cases x.2.2 <;> simp [h]
      omega
    · have : List.filterMap (fun tg => tagP tg x) [n] = [] := by simp [tagP, h]
      rw [this]
      simp only [List.flatten_nil, List.length_nil, Nat.add_zero]
      refine Nat.le_trans ih ?_
      split
      · omega
      · split
        · rw [if_pos (by omega)]; omega
        · omega
theorem tags_sum (n : Nat) : ∀ zs : List ZF, ((List.range n).flatMap (fun tg => zs.filterMap (tagP tg))).flatten.length = (zs.map (GT n)).sum := by
  intro zs
  induction n with
  | zero =>
    have : ∀ zs : List ZF, (zs.map (GT 0)).sum = 0 := by intro zs; induction zs with
      | nil => rfl
      | cons x r ih => simp [GT]; simpa [GT] using ih
    simp [this]
  | succ n ih =>
    rw [List.range_succ, List.flatMap_append, List.flatten_append, List.length_append, ih]
    have h1 : ([n].flatMap fun tg => zs.filterMap (tagP tg)) = zs.filterMap (tagP n) := by simp
    rw [h1]
    clear ih h1
    induction zs with
    | nil => rfl
    | cons x r ih2 =>
      simp only [List.map_cons, List.sum_cons]
      have h2 : GT (n + 1) x = GT n x + (tagP n x).toList.flatten.length := by
        unfold GT
        rw [List.range_succ, List.filterMap_append, List.flatten_append, List.length_append]
        cases hq : tagP n x <;> simp [hq]
      have h3 : ((x :: r).filterMap (tagP n)).flatten.length = (tagP n x).toList.flatten.length + (r.filterMap (tagP n)).flatten.length := by
        cases hq : tagP n x <;> simp [hq]
      rw [h2, h3, ← ih2]; omega
theorem plain_cost {v : Int} {flex : Bool} {t : Tr} (ht : KeyOK t) : ∀ (fs : List Fd) (i : Nat), (∀ f ∈ fs, ∀ t, KeyOK t → (fieldB f v flex t).length ≤ costF f * wt t) → ((fs.zip (fieldsB fs v flex i t)).flatMap (pieceP v)).length ≤ plainCost fs * wt t
  | [], _, _ => by simp [fieldsB]
  | f :: r, i, h => by
    have h1 := h f List.mem_cons_self (t.at i) (ht.at i)
    have h2 := plain_cost ht r (i + 1) (fun g hg => h g (List.mem_cons_of_mem _ hg))
    have h3 : costF f * wt (t.at i) ≤ costF f * wt t := Nat.mul_le_mul_left _ (wt_at t i)
    rw [fieldsB, List.zip_cons_cons, List.flatMap_cons, List.length_append]
    simp only [plainCost, Nat.add_mul]
    have h4 : (pieceP v (f, fieldB f v flex (t.at i), fieldU f (t.at i))).length ≤ (if f.tag < 0 then costF f else 0) * wt t := by
      unfold pieceP
      by_cases hg : f.tag < 0
      · rw [if_pos hg]; simp only; split
        · omega
        · simp
      · rw [if_neg hg]; simp [hg]
    omega
theorem tag_cost {v : Int} {flex : Bool} {t : Tr} (ht : KeyOK t) (n : Nat) : ∀ (fs : List Fd) (i : Nat), (∀ f ∈ fs, ∀ t, KeyOK t → (fieldB f v flex t).length ≤ costF f * wt t) → ((fs.zip (fieldsB fs v flex i t)).map (GT n)).sum ≤ tagCost fs * wt t
  | [], _, _ => by simp [fieldsB]
  | f :: r, i, h => by
    have h1 := h f List.mem_cons_self (t.at i) (ht.at i)
    have h2 := tag_cost ht n r (i + 1) (fun g hg => h g (List.mem_cons_of_mem _ hg))
    have h3 : costF f * wt (t.at i) ≤ costF f * wt t := Nat.mul_le_mul_left _ (wt_at t i)
    have hw := wt_pos t
    rw [fieldsB, List.zip_cons_cons, List.map_cons, List.sum_cons]
    simp only [tagCost, Nat.add_mul]
    have h4 : GT n (f, fieldB f v flex (t.at i), fieldU f (t.at i)) ≤ (if f.tag < 0 then 0 else costF f + costF f / 64 + f.tag.toNat + 40) * wt t := by
      refine Nat.le_trans (GT_le n _) ?_
      simp only
      by_cases hg : f.tag < 0
      · rw [if_pos hg, if_pos hg]; simp
      · rw [if_neg hg, if_neg hg]
        split
        · simp only [tagB, List.length_append]
          have g1 := uvar64 f.tag.toNat
          have g2 := uvar64 (fieldB f v flex (t.at i)).length
          have g3 : (fieldB f v flex (t.at i)).length ≤ costF f * wt t := by omega
          have g4 : (fieldB f v flex (t.at i)).length / 64 ≤ (costF f / 64 + 1) * wt t := by
            have e1 : costF f ≤ 64 * (costF f / 64 + 1) := by omega
            have e2 : costF f * wt t ≤ 64 * (costF f / 64 + 1) * wt t := Nat.mul_le_mul_right _ e1
            rw [Nat.mul_assoc] at e2
            omega
          have g5 : f.tag.toNat ≤ f.tag.toNat * wt t := le_mul _ _ hw
          have e3 : (costF f + costF f / 64 + f.tag.toNat + 40) * wt t = costF f * wt t + (costF f / 64 + 1) * wt t + f.tag.toNat * wt t + 39 * wt t := by
            rw [← Nat.add_mul, ← Nat.add_mul, ← Nat.add_mul]; congr 1; omega
          rw [e3]; omega
        · omega
    omega
theorem unk_cost : ∀ (us : List (Int × List UInt8)), (∀ x ∈ us, x.1.toNat < 4294967296) → ((us.map fun x => tagB x.1.toNat (whole x.2)).flatten).length ≤ 20 * wtu us
  | [], _ => by simp
  | (k, b) :: r, h => by
    have h1 := unk_cost r (fun x hx => h x (List.mem_cons_of_mem _ hx))
    have h2 := h (k, b) List.mem_cons_self
    simp only at h2
    have g1 := uvar_len 4 k.toNat (by omega)
    have g2 := whole_len b
    have g3 := uvar_len 2 (whole b).length (by omega)
    have g4 : (tagB k.toNat (whole b)).length = (uvar k.toNat).length + (uvar (whole b).length).length + (whole b).length := by simp [tagB]; omega
    simp only [List.map_cons, List.flatten_cons, List.length_append, wtu, g4]
    omega
theorem wtu_len (l : List (Int × List UInt8)) : l.length ≤ wtu l := by
  induction l with
  | nil => simp
  | cons x r ih => simp only [List.length_cons, wtu]; omega
theorem part_cost {fs : List Fd} {v : Int} {flex : Bool} {t : Tr} (ht : KeyOK t) (h : ∀ f ∈ fs, ∀ t, KeyOK t → (fieldB f v flex t).length ≤ costF f * wt t) : (partB fs v flex t).length ≤ costFs fs * wt t := by
  have h1 := plain_cost (v := v) (flex := flex) ht fs 0 h
  have h2 := tag_cost (v := v) (flex := flex) ht (known fs) fs 0 h
  have hw := wt_pos t
  have hu := wt_u t
  have hun := wtu_unknown fs t.u
  have hk : ∀ x ∈ unknown fs t.u, x.1.toNat < 4294967296 := fun x hx => by cases ht with | mk _ hu _ => exact hu x (mem_unknown hx)
  have h3 := unk_cost (unknown fs t.u) hk
  have hul := wtu_len (unknown fs t.u)
  have h4 := tags_sum (known fs) (zipped fs v flex t)
  have h5 := tagsTo_count (zs := zipped fs v flex t) (tag := known fs) (i := 0)
  have e1 : (tagsTo (zipped fs v flex t) (known fs) 0).flatten.length = ((zipped fs v flex t).map (GT (known fs))).sum := by
    rw [← h4]; simp [tagsTo]
  have e2 : plainTo (zipped fs v flex t) v fs.length = (fs.zip (fieldsB fs v flex 0 t)).flatMap (pieceP v) := by
    unfold plainTo
    rw [List.take_of_length_le (by rw [zipped_length]; exact Nat.le_refl _)]; rfl
  have e3 : (unkTo (unknown fs t.u) (unknown fs t.u).length).flatten.length = ((unknown fs t.u).map fun x => tagB x.1.toNat (whole x.2)).flatten.length := by
    unfold unkTo; rw [List.take_length]
  have e4 : (unkTo (unknown fs t.u) (unknown fs t.u).length).length = (unknown fs t.u).length := by
    unfold unkTo; rw [List.take_length, List.length_map]
  have h2' : ((zipped fs v flex t).map (GT (known fs))).sum ≤ tagCost fs * wt t := h2
  rw [costFs_eq, partB_eq, Nat.add_mul, Nat.add_mul, Nat.mul_assoc]
  cases flex with
  | false => simp only [Bool.not_false, if_true]; rw [e2]; omega
  | true =>
    simp only [Bool.not_true, Bool.false_eq_true, if_false]
    rw [List.flatten_append]
    simp only [List.length_append]
    have g := uvar64 ((tagsTo (zipped fs v true t) (known fs) 0).length + (unkTo (unknown fs t.u) (unknown fs t.u).length).length)
    rw [e2]
    omega
theorem costs (fs : List Fd) (v : Int) (flex : Bool) : ∀ t, KeyOK t → (partB fs v flex t).length ≤ costFs fs * wt t := by
  induction hsz : SizeOf.sizeOf fs using Nat.strongRecOn generalizing fs with
  | _ sz ih =>
    intro t ht
    refine part_cost ht fun f hf t ht => fieldB_cost (fun t ht => ih _ ?_ f.sub rfl t ht) ht
    have h1 := List.sizeOf_lt_of_mem hf
    have h2 : SizeOf.sizeOf f.sub < SizeOf.sizeOf f := by cases f; simp [Fd.sub]; omega
    omega
theorem TreeAt.keys {H : Fz} {c : TC} {t : Tr} (h : TreeAt H c t) : KeyOK t := by
  induction h with
  | mk c t hs hu hc hb b o ec ha hat _ ih =>
    refine .mk t (fun x hx => ?_) (fun x hx => ?_)
    · obtain ⟨i, hi, rfl⟩ := List.mem_iff_getElem.1 hx
      obtain ⟨b, o, _, h2⟩ := hu.at_ (ne_nil_of_lt hi)
      obtain ⟨g, _, h3⟩ := h2 i hi
      have := h3.hi
      omega
    · obtain ⟨i, hi, rfl⟩ := List.mem_iff_getElem.1 hx
      exact ih i hi
end Go.Sx
/- From a walk's end to a statement's: what was there before is as it was. -/
set_option maxRecDepth 100000
namespace Go.Sx
open Go.Proofs Go.ChangeShapes Go.WideShapes Go.ChangeAt Go.RowKit
theorem below_of {W W' : World} {H : Fz} {L : Own} (hle : (fzOf W).le H) (h : Hp H L W') : Below W.heap.size W W' := by
  refine ⟨h.os.trans hle.os, h.tape.trans hle.tape, h.output.trans hle.output, ?_, fun k hk => ?_⟩
  · rcases Nat.eq_zero_or_pos W.heap.size with h0 | h0
    · omega
    · have := h.fz (W.heap.size - 1) W.heap[W.heap.size - 1] (hle.blk _ _ (by show W.heap[W.heap.size - 1]? = _; simp [h0]))
      have := lt_of_heap this
      omega
  · have : W.heap[k]? = some W.heap[k] := by simp [hk]
    rw [this]; exact h.fz k _ (hle.blk k _ this)
theorem frozen_of {W W' : World} {H : Fz} {L : Own} (hle : (fzOf W).le H) (h : Hp H L W') (a : Addr) (ha : a.block < W.heap.size) : W'.frozen? a = W.frozen? a := (below_of hle h).frozen ha
section
open Go.WideShapes
variable {E : Type} {enc : TypeId × Value → E} {P : Program}
/-- The kit's 'post_of_same', asked of the marks of what was there before alone. -/
theorem post_same {f : Func} {s : ChangeSpec} {apart fresh handsOn again : Bool} {W W' : World} {args : Array Value} {v : Value} {ds gs : List (DataW E)} {before pa pv : List MemPlace}
    (hW : DataW.Whole enc P f.params.toList s.vars apart W args.toList ds gs before)
    (hres : ∀ (b : Nat) (sp : Nat → Bool) (hd : Bool), DataW.TrodAll enc P W' b sp hd f.resultTypes.toList (v.resultList f.resultTypes.size) (s.fn E (ds ++ gs)).results [])
    (hargs : ∀ sp : Nat → Bool, (∀ p ∈ before, sp p.block = true) → DataW.TrodAll enc P W' 0 sp true f.params.toList args.toList (s.fn E (ds ++ gs)).args pa)
    (hvars : ∀ sp : Nat → Bool, (∀ p ∈ before, sp p.block = true) → DataW.TrodVars enc P W' sp s.vars (s.fn E (ds ++ gs)).vars pv)
    (hps : before = pa ++ pv) (hk : W.keptBut W' (· ∈ before)) (hfz : ∀ a : Addr, a.block < W.heap.size → W'.frozen? a = W.frozen? a)
    (hok : ∀ (j : Nat) (t : TypeId) (r : Value), f.resultTypes[j]? = some t → (v.resultList f.resultTypes.size)[j]? = some r → Value.okWide P W' .any 0 t r) :
    s.post enc P f apart fresh handsOn again W args v W' := by
  have hlt := hW.lt
  have hold : ∀ p ∈ before, (fun b => decide (b < W.heap.size)) p.block = true := fun p hp => by simpa using hlt p hp
  refine ⟨ds, gs, before, [], pa, pv, hW, hres _ _ _, hargs _ hold, hvars _ hold, World.keptBut_mono (fun p hp => ⟨hp, ?_⟩) hk, fun _ => ?_⟩
  · rw [hps, List.mem_append] at hp
    exact Or.inr hp
  · obtain ⟨_, _, _, _, _, hz, hn⟩ := hW
    refine ⟨hok, _, _, ([] ++ pa) ++ pv, ⟨[] ++ pa, pv, trodAll_append (hargs _ (fun _ _ => rfl)) (hres _ _ _), hvars _ (fun _ _ => rfl), rfl, ?_, ?_⟩, ?_⟩
    · intro b off hp
      have hp' : MemPlace.cell b off ∈ before := by rw [hps]; simpa using hp
      rw [hfz _ (hlt _ hp')]
      exact hz b off hp'
    · intro ha
      have := hn ha
      rw [hps] at this
      simpa using this
    · intro p hp _
      rw [hps]
      simpa using hp
end
theorem and_t {a b : Bool} (h1 : a = true) (h2 : b = true) : (a && b) = true := by rw [h1, h2]; rfl
end Go.Sx

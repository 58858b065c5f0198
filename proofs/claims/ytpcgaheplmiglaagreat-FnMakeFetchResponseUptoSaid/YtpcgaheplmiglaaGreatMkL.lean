/- What is asked of a tree out of which kmsg's structs are made. -/
import Derived.Test.YtpcgaheplmiglaaGreatOkL
set_option linter.unusedVariables false
set_option linter.unusedSimpArgs false
namespace Go.Sx
inductive Fine : Tr → Prop
  | mk (t : Tr) (h : t.l.length ≤ 32767) (hu : SortedU t.u) (hn : t.u.length ≤ 32767) (hr : ∀ x ∈ t.l, Fine x) : Fine t
theorem Fine.len {t : Tr} (h : Fine t) : t.l.length ≤ 32767 := by cases h; assumption
theorem Fine.u {t : Tr} (h : Fine t) : SortedU t.u := by cases h; assumption
theorem Fine.un {t : Tr} (h : Fine t) : t.u.length ≤ 32767 := by cases h; assumption
theorem Fine.el {t x : Tr} (h : Fine t) (hx : x ∈ t.l) : Fine x := by cases h with | mk _ _ _ _ hr => exact hr x hx
theorem Fine.none : Fine .none := .mk _ (by simp [Tr.l, Tr.none]) (by simp [Tr.u, Tr.none, SortedU]) (by simp [Tr.u, Tr.none]) (fun x hx => by simp [Tr.l, Tr.none] at hx)
theorem Fine.at {t : Tr} (h : Fine t) (i : Nat) : Fine (t.at i) := by
  unfold Tr.at
  cases hq : t.l[i]? with
  | none => exact Fine.none
  | some x => exact h.el (List.mem_of_getElem? hq)
theorem fine_leaf (n : Int) (s : List UInt8) (b : Bool) : Fine (.mk n s b [] []) := .mk _ (by simp [Tr.l]) (by simp [Tr.u, SortedU]) (by simp [Tr.u]) (fun x hx => by simp [Tr.l] at hx)
theorem fine_nul {n : Int} {s : List UInt8} {b b' : Bool} {l : List Tr} {u : List (Int × List UInt8)} (h : Fine (.mk n s b l u)) : Fine (.mk n s b' l u) := .mk _ h.len h.u h.un (fun _ hx => h.el hx)
theorem fine_fitV {kind : Int} {fs : List Fd} {v : Int} {nul : Bool} {x : Tr} (h : Fine (fit fs v x)) : Fine (fitV kind (fit fs v) nul x) := by
  unfold fitV
  split
  · exact fine_leaf _ _ _
  · split
    · exact fine_nul h
    · exact fine_leaf _ _ _
theorem fine_fit {fs : List Fd} (h : Good fs) (v : Int) : ∀ t, Fine (fit fs v t) := by
  induction h with
  | mk fs hl _ _ ih =>
    intro t
    have hu := okU_fit fs t.u
    refine .mk _ (by show (fitsF fs v 0 t).length ≤ _; rw [fitsF_length]; omega) ?_ hu.2.1 fun x hx => ?_
    · show SortedU ((unknown fs t.u).map wholeTag)
      have := unknown_sorted fs t.u
      unfold SortedU at this ⊢
      rw [List.pairwise_map]
      exact this.imp (fun h => h)
    · obtain ⟨i, hi, rfl⟩ := List.mem_iff_getElem.1 (show x ∈ fitsF fs v 0 t from hx)
      rw [fitsF_length] at hi
      have h := fitsF_get v t fs 0 i hi
      obtain ⟨h1, h2⟩ := List.getElem?_eq_some_iff.1 h
      rw [show (fitsF fs v 0 t)[i] = _ from h2]
      have h1 := ih fs[i] (List.getElem_mem hi)
      generalize fs[i] = f at h1
      rw [fitF_eq]; unfold fitF'
      split
      · refine .mk _ ?_ (by simp [Tr.u, SortedU]) (by simp [Tr.u]) fun y hy => ?_
        · show (List.map _ (t.at (0 + i)).things).length ≤ _
          rw [List.length_map]
          show ((t.at (0 + i)).l.take most).length ≤ _
          rw [take_most_len]; omega
        · obtain ⟨z, _, rfl⟩ := List.mem_map.1 (show y ∈ List.map _ (t.at (0 + i)).things from hy)
          exact fine_fitV (h1 z)
      · exact fine_fitV (h1 _)
/-! ### Tags that are set one after another -/
def KvTo (H : Fz) (us : List (Int × List UInt8)) (kvs : List KV) : Prop := kvs.length = us.length ∧ ∀ (i : Nat) k s, us[i]? = some (k, s) → ∃ v, kvs[i]? = some (k, v) ∧ KvEl H v k s
theorem KvTo.nil (H : Fz) : KvTo H [] [] := ⟨rfl, fun i k s h => by simp at h⟩
theorem KvTo.mono {H H' : Fz} {us : List (Int × List UInt8)} {kvs : List KV} (h : KvTo H us kvs) (hle : H.le H') : KvTo H' us kvs := ⟨h.1, fun i k s hi => let ⟨v, h1, h2⟩ := h.2 i k s hi; ⟨v, h1, h2.mono hle⟩⟩
theorem KvTo.keys {H : Fz} {us : List (Int × List UInt8)} {kvs : List KV} (h : KvTo H us kvs) : keysOf kvs = us.map (·.1) := by
  apply List.ext_getElem?
  intro i
  by_cases hi : i < us.length
  · obtain ⟨v, h1, _⟩ := h.2 i us[i].1 us[i].2 (by simp [hi])
    simp [keysOf, h1, hi]
  · have h1 := h.1
    simp [keysOf, List.getElem?_eq_none (show us.length ≤ i by omega), List.getElem?_eq_none (show kvs.length ≤ i by omega)]
theorem putKv_new {k : Int} {v : Value} : ∀ {kvs : List KV}, k ∉ keysOf kvs → putKv kvs k v = kvs ++ [(k, v)]
  | [], _ => rfl
  | p :: r, h => by
    simp only [keysOf, List.map_cons, List.mem_cons, not_or] at h
    rw [putKv, if_neg (fun e => h.1 e.symm), putKv_new (kvs := r) (by simpa [keysOf] using h.2)]; rfl
theorem KvTo.put {H : Fz} {us : List (Int × List UInt8)} {kvs : List KV} {k : Nat} {v : Value} {x : Int × List UInt8} (hs : SortedU us) (hk : us[k]? = some x) (h : KvTo H (us.take k) kvs) (hv : KvEl H v x.1 x.2) : KvTo H (us.take (k + 1)) (putKv kvs x.1 v) := by
  have hlt := lt_of_get hk
  have hnew : x.1 ∉ keysOf kvs := by
    rw [h.keys]
    intro hm
    obtain ⟨y, hy, he⟩ := List.mem_map.1 hm
    obtain ⟨j, hj, rfl⟩ := List.mem_iff_getElem.1 hy
    have hj' : j < k := by simp at hj; omega
    have h1 := List.pairwise_iff_getElem.1 hs j k (by omega) hlt hj'
    have h2 : us[k] = x := by rw [List.getElem?_eq_getElem hlt] at hk; exact Option.some.inj hk
    simp only [List.getElem_take] at he
    rw [h2] at h1; omega
  rw [putKv_new hnew]
  have hl := h.1
  have hkl : kvs.length = k := by simp at hl; omega
  refine ⟨by simp; omega, fun i k' s hi => ?_⟩
  rw [List.getElem?_take] at hi
  split at hi
  · rename_i hik
    by_cases hi' : i < k
    · obtain ⟨v', h1, h2⟩ := h.2 i k' s (by rw [List.getElem?_take, if_pos hi']; exact hi)
      exact ⟨v', by rw [List.getElem?_append_left (by omega)]; exact h1, h2⟩
    · obtain rfl : i = k := by omega
      rw [hk] at hi
      obtain rfl := Option.some.inj hi
      exact ⟨v, by rw [List.getElem?_append_right (by omega), hkl]; simp, hv⟩
  · cases hi
theorem sort_sorted {l : List Int} (h : l.Pairwise (· < ·)) : l.mergeSort (fun x y => decide (x ≤ y)) = l :=
  List.mergeSort_of_pairwise (h.imp (fun h => by simp; omega))
theorem lookKv_at : ∀ {kvs : List KV} {i : Nat} {k : Int} {v : Value}, (keysOf kvs).Pairwise (· < ·) → kvs[i]? = some (k, v) → lookKv kvs k = some v
  | p :: r, 0, k, v, _, h => by simp at h; subst h; simp [lookKv]
  | p :: r, i + 1, k, v, hp, h => by
    simp only [List.getElem?_cons_succ] at h
    simp only [keysOf, List.map_cons] at hp
    obtain ⟨h1, h2⟩ := List.pairwise_cons.1 hp
    have hm : k ∈ r.map (·.1) := List.mem_map.2 ⟨(k, v), List.mem_of_getElem? h, rfl⟩
    have := h1 k hm
    rw [lookKv, if_neg (by omega)]
    exact lookKv_at (kvs := r) h2 h
theorem KvTo.at_ {H : Fz} {us : List (Int × List UInt8)} {kvs : List KV} {m : Option Nat} (hs : SortedU us) (h : KvTo H us kvs) (hm : MapF H m kvs) : KvAt H m us := by
  have hk : (keysOf kvs).Pairwise (· < ·) := by
    rw [h.keys, List.pairwise_map]; exact hs
  refine ⟨kvs, hm, h.1, fun i k v hi => ?_⟩
  have e : sortKv kvs = (keysOf kvs).map fun k => (k, (lookKv kvs k).getD undef) := by unfold sortKv; rw [sort_sorted hk]
  rw [e, List.getElem?_map] at hi
  have hi' : i < us.length := by
    rcases Nat.lt_or_ge i us.length with h' | h'
    · exact h'
    · rw [show (keysOf kvs)[i]? = none from List.getElem?_eq_none (by rw [h.keys]; simpa using h')] at hi; cases hi
  obtain ⟨v', h1, h2⟩ := h.2 i us[i].1 us[i].2 (by simp [hi'])
  have hkk : (keysOf kvs)[i]? = some us[i].1 := by rw [h.keys]; simp [hi']
  rw [hkk] at hi
  simp only [Option.map_some, Option.some.injEq, Prod.mk.injEq] at hi
  obtain ⟨rfl, rfl⟩ := hi
  refine ⟨us[i].2, by simp [hi'], ?_⟩
  rw [lookKv_at hk h1]
  exact h2
theorem nulC2 {P : Program} {Q : Exit → Act → World → Prop} {c : Code} {n : Nat} {l : Env} {H : Fz} {L : Own} (h : Wp P c Q n l H ([] :: L)) : Wp P c Q n l H L := nilC h
section
variable {P : Program} {ops : Array Oper} {Q : Exit → Act → World → Prop} {rest : List Oper} {n d : Nat} {l : Env} {H : Fz} {L : Own} {ty : TypeId} {pos : String} {af : Array Edge}
theorem cpB2 {dT sT e re m cap m' c' : Nat} {a a' : Option Addr} {x y : Operand} {s : List UInt8} {xs : List Value} {N : Chunk} {F : Chunk → Own} (hu : P.underlying dT = some (.slice e)) (hs : (P.info? e).map (·.size) = some 1)
    (hx : get l x = some (.slice a m cap)) (hy : get l y = some (.slice a' m' c')) (hr : Row re 1 a m cap xs N) (hF : ∀ N', Upd L N N' (F N')) (hB : BytesAt H a' c' s) (hm : m' = s.length) (hn : Nat.blt d n = true)
    (h : ∀ N', Row re 1 a m cap (bytesOf (s.take m) ++ xs.drop s.length) N' → WL P ops Q rest n ((d, .int .i64 ((min s.length m : Nat) : Int)) :: l) H (F N')) :
    WL P ops Q (⟨some d, .call { callee := .builtin .copy, args := #[x, y], argTypes := #[dT, sT] }, ty, pos, af, none⟩ :: rest) n l H L :=
  WL.vw rfl rfl hn (fun w0 w hA hw => by
    subst hm
    by_cases h0 : min s.length m = 0
    · have hc := run_copy_none (P := P) w dT sT ty e a a' m cap s.length c' hu hs h0
      refine ⟨.int .i64 0, w, H, F N, by simp [execOp, resolve, invoke, builtin, hA.get hx, hA.get hy, hc, goInt], ?_, ?_⟩
      · rw [(hF N).same]; exact hw
      · have e1 : bytesOf (s.take m) ++ xs.drop s.length = xs := by
          have hl := hr.1
          by_cases hs0 : s.length = 0
          · have : s = [] := List.eq_nil_of_length_eq_zero hs0
            subst this; simp [bytesOf]
          · have hm0 : m = 0 := by omega
            subst hm0
            have : xs = [] := List.eq_nil_of_length_eq_zero (by simpa using hl)
            subst this; simp [bytesOf]
        have := h N (by rw [e1]; exact hr)
        rw [h0] at this
        exact this
    · obtain ⟨b, o, rfl, hb⟩ := hB.at_ (by intro e0; subst e0; simp at h0)
      have hl := hr.1
      rcases hr.2 with ⟨_, hm0, _⟩ | ⟨g, cur, rfl, rfl, hnc, hcm, hcs, htake⟩
      · omega
      · have hg : w.heap[g]? = some (.cells cur re (0, 0)) := (hF []).here hw (List.mem_singleton.2 rfl)
        have hlen : (bytesOf (s.take m)).length = Nat.min s.length m := by rw [bytesOf_length, List.length_take]; exact Nat.min_comm _ _
        have hmin : Nat.min s.length m ≤ m := Nat.min_le_right _ _
        have hsrc : ∀ j v, (bytesOf (s.take m))[j]? = some v → w.cell? ((⟨b, o, none⟩ : Addr).add j) = some v := by
          intro j v hj
          rw [add_plain]
          refine hb.cellB hw.bs ?_
          simp only [bytesOf, List.getElem?_map, List.getElem?_take] at hj ⊢
          split at hj
          · exact hj
          · simp at hj
        have hc := run_copy_row (P := P) w dT sT ty e g 0 m cap ⟨b, o, none⟩ s.length c' cur re (bytesOf (s.take m)) hu hs hg hlen hsrc (by rw [hlen, hcs]; omega) (bytesOf_one _)
        simp only [List.take_zero, List.nil_append, Nat.zero_add] at hc
        rw [hlen] at hc
        refine ⟨goInt (Nat.min s.length m), _, H, F [(g, .cells (bytesOf (s.take m) ++ cur.toList.drop (Nat.min s.length m)).toArray re (0, 0))], by simp [execOp, resolve, invoke, builtin, hA.get hx, hA.get hy, hc], setRow_turn hw (hF _), h _ ⟨?_, .inr ⟨g, _, rfl, rfl, hnc, hcm, ?_, ?_⟩⟩⟩
        · rw [List.length_append, hlen, List.length_drop, hl]
          simp only [Nat.min_def]; split <;> omega
        · simp only [List.size_toArray, List.length_append, hlen, List.length_drop, Array.length_toList, hcs]
          simp only [Nat.min_def]; split <;> omega
        · simp only []
          rw [List.take_append, hlen, List.take_of_length_le (by rw [hlen]; omega)]
          congr 1
          rw [← htake]
          simp only [Nat.mul_one, List.drop_take]
          by_cases hsm : s.length ≤ m
          · rw [show Nat.min s.length m = s.length from Nat.min_eq_left hsm]
          · rw [show Nat.min s.length m = m from Nat.min_eq_right (by omega), Nat.sub_self, show m - s.length = 0 by omega]
            simp)
end
end Go.Sx

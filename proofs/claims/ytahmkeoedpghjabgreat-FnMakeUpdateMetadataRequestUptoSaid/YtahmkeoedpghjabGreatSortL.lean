/- The library's sort.Slice on an own row of numbers, as a contract of the walk's. -/
import Derived.Test.YtahmkeoedpghjabGreatMapL
import Derived.Shelf.GgSortFunc.Whole
import Derived.Shelf.GgSortFunc.Tiny
import Derived.Sort.LotA
set_option linter.unusedVariables false
set_option linter.unusedSimpArgs false
namespace Go.Sx
open Go.Sort Go.Shelf Go.Lib Go.Proofs
def u32s (ks : List Int) : List Value := ks.map (Value.int .u32)
def srt (ks : List Int) : List Int := ks.mergeSort fun x y => decide (x ≤ y)
def ltI (x y : Int) : Bool := decide (x < y)
theorem swo_ltI : SWO ltI := ⟨fun x => by simp [ltI], fun x y z h1 h2 => by simp only [ltI, decide_eq_true_eq] at *; omega, fun x y z h1 h2 => by simp only [ltI, decide_eq_false_iff_not] at *; omega⟩
theorem srt_eq (d d' : Array Int) (hp : PermIn 0 d.size d d') (hs : SortedIn ltI 0 d.size d') : d'.toList = srt d.toList := by
  have h := sorted_unique_holds (lt := ltI) swo_ltI (fun x y h1 h2 => by simp only [ltI, decide_eq_false_iff_not] at h1 h2; omega) d d' hp hs
  rw [h]; unfold srt
  congr 1
  funext x y
  simp only [ltI]
  by_cases hxy : x ≤ y
  · simp [hxy]
  · simp [hxy]; omega
theorem srt_length (ks : List Int) : (srt ks).length = ks.length := by simp [srt]
theorem srt_perm (ks : List Int) : (srt ks).Perm ks := List.mergeSort_perm _ _
theorem srt_tiny {ks : List Int} (h : ks.length ≤ 1) : srt ks = ks := by
  match ks, h with
  | [], _ => simp [srt]
  | [x], _ => simp [srt]
  | x :: y :: r, h => simp at h
theorem holds_u32 {w : World} {g : Nat} {cur : Array Value} {e : TypeId} {ks : List Int} (hb : w.heap[g]? = some (.cells cur e (0, 0))) (ht : cur.toList.take ks.length = u32s ks) : Holds (Value.int .u32) w g 0 ks.toArray := by
  intro j hj
  have hj' : j < ks.length := by simpa using hj
  refine ⟨?_, by simp [World.frozen?, hb]⟩
  have h1 : (cur.toList.take ks.length)[j]? = (u32s ks)[j]? := by rw [ht]
  rw [List.getElem?_take_of_lt hj'] at h1
  simp only [World.cell?, hb, Nat.zero_add]
  simp only [Option.isSome_none, Bool.false_eq_true, if_false]
  rw [← Array.getElem?_toList, h1]
  simp [hj', u32s]
theorem heap_sortedU {w : World} {g n : Nat} {os : Array Obj} {cur : Array Value} {e : TypeId} {fr : Nat × Nat} (d : Array Int) (hb : w.heap[g]? = some (.cells cur e fr)) :
    (grow (putRow (Value.int .u32) (Sort.ahead w n) g 0 d) os).heap[g]? = some (.cells (putCells (Value.int .u32) 0 d cur) e fr) := by
  have hg : g < w.heap.size := (Array.getElem?_eq_some_iff.1 hb).1
  rw [heap_grow_old _ _ (by simpa using hg)]
  simp [putRow, mapBlock, Sort.ahead, Array.getElem?_modify, hb, onCells]
theorem take_putU (cur : Array Value) (ts : List Int) (h : ts.length ≤ cur.size) : (putCells (Value.int .u32) 0 ts.toArray cur).toList.take ts.length = u32s ts := by
  apply List.ext_getElem?
  intro j
  by_cases hj : j < ts.length
  · rw [List.getElem?_take_of_lt hj, Array.getElem?_toList]
    simp [putCells, hj, show j < cur.size by omega, u32s]
  · rw [List.getElem?_take_eq_none (by omega), List.getElem?_eq_none (by simp [u32s]; omega)]
/-- New blocks behind the heap. -/
theorem Hp.grow {H : Fz} {L : Own} {w : World} (h : Hp H L w) (os : Array Obj) : Hp H L (Sort.grow w os) := by
  refine ⟨h.os, h.tape, h.output, fun b o hb => ?_, fun b o hm => ?_, h.nd⟩
  · have := h.fz b o hb
    rw [heap_grow_old _ _ (lt_of_heap this)]; exact this
  · obtain ⟨h1, h2⟩ := h.own b o hm
    exact ⟨by rw [heap_grow_old _ _ (lt_of_heap h1)]; exact h1, h2⟩
theorem Hp.ahead {H : Fz} {L : Own} {w : World} (h : Hp H L w) (n : Nat) : Hp H L (Sort.ahead w n) := ⟨h.os, h.tape, h.output, h.fz, h.own, h.nd⟩
theorem u32s_one (ks : List Int) : ∀ u ∈ u32s ks, u.oneCell' = true := by
  intro u hu
  simp only [u32s, List.mem_map] at hu
  obtain ⟨x, _, rfl⟩ := hu
  rfl
variable {P : Program} {ρ : Ren}
/-- What is asked of the caller's 'less': it reads the slice behind a pointer, and two of its numbers. -/
def LessU (P : Program) (lf : Nat) : Prop := ∀ (blk off c Bs size : Nat) (W : World) (G : Nat → Int), W.cell? ⟨Bs, 0, none⟩ = some (.slice (some ⟨blk, off, none⟩) size c) → (∀ t, t < size → W.cell? ⟨blk, off + t, none⟩ = some (.int .u32 (G t))) → ∀ i j : Nat, i < size → j < size →
    Calls P lf #[.int .i64 i, .int .i64 j, .pointer (some ⟨Bs, 0, none⟩)] W fun e w' => e = .returned (.bool (decide (G i < G j))) ∧ ∃ q, w' = W.drewN q
/-- What is asked of the program's types and of the swapper's literals. -/
structure SortEnv (P : Program) (ρ : Ren) (t e : TypeId) (i ie : TypeInfo) (ke : Nat) : Prop where
  lays : LaysGg.n6 P ρ
  hi : P.info? t = some i
  hd : i.desc = .slice e
  hpk : P.packed t = false
  hie : P.info? e = some ie
  hke : ∀ w, (Extern.Rtype.kind e).run P w = .ok ke w
  hs1 : ie.size = 1
  hagg : ∀ w, (isAgg e).run P w = .ok false w
  tiny : ∀ n, n ≤ 1 → ∃ f, P.funcs.findIdx? (·.name == "internal/reflectlite" ++ ".Swapper$" ++ toString (swapperK n ie ke)) = some f
  big : ∀ n, 2 ≤ n → ∃ f gS, P.funcs.findIdx? (·.name == "internal/reflectlite" ++ ".Swapper$" ++ toString (swapperK n ie ke)) = some f ∧ ∀ args W, (callFunc f args).run P W = ((Extern.ReflectliteSwapper.swap gS args).run P W).andThen fun v w' => .ok (.value v) w'
theorem sort_fn {t e lf bx ke : Nat} {i ie : TypeInfo} (E : SortEnv P ρ t e i ie ke) (hcall : ∀ args w, (callFunc (ρ.f 6) args).run P w = .ok (.enter (ρ.f 6) args) w) (eg : ∀ args w, (callFunc lf args).run P w = .ok (.enter lf args) w) (hless : LessU P lf)
    {ks : List Int} {a : Option Addr} {n cap T e' : Nat} {N : Chunk} {H : Fz} {L : Own} (hr : Row e' 1 a n cap (u32s ks) N) (h62 : n < 4611686018427387904) :
    Fn P (ρ.f 6) [.iface t (.slice a n cap), .func (.func lf) #[] #[.pointer (some ⟨bx, 0, none⟩)]] H (N :: [(bx, .cells #[.slice a n cap] T (0, 0))] :: L)
      (fun _ H' L' => H = H' ∧ ∃ N', L' = N' :: [(bx, .cells #[.slice a n cap] T (0, 0))] :: L ∧ Row e' 1 a n cap (u32s (srt ks)) N') := by
  refine ⟨hcall, fun w hw => ?_⟩
  have hlen : ks.length = n := by have := hr.1; simpa [u32s] using this
  by_cases h1 : n ≤ 1
  · obtain ⟨f, hf⟩ := E.tiny n h1
    refine (Any.sort_Slice_tiny E.lays t e i ie E.hi E.hd E.hpk E.hie ke E.hke a n cap h1 f hf (.func lf) #[] _ w).mono ?_
    rintro e1 w' ⟨rfl, os, rfl⟩
    exact ⟨_, H, _, rfl, Fz.le.refl H, hw.grow os, rfl, N, rfl, by rw [srt_tiny (by omega)]; exact hr⟩
  · rcases hr.2 with ⟨_, h0, _⟩ | ⟨g, cur, rfl, rfl, hnc, hcm, hcs, htake⟩
    · omega
    · have hg := (hw.own g (.cells cur e' (0, 0)) (by simp)).1
      have hbx := (hw.own bx (.cells #[.slice (some ⟨g, 0, none⟩) n cap] T (0, 0)) (by simp)).1
      have hne : g ≠ bx := by
        have := hw.nd
        simp at this
        exact this.1.1
      have hgl := lt_of_heap hg
      have hbl := lt_of_heap hbx
      have hsz : ks.toArray.size = n := by simpa using hlen
      have hH : Holds (Value.int .u32) w g 0 ks.toArray := holds_u32 hg (by rw [hlen]; simpa using htake)
      obtain ⟨f, gS, hf, hx⟩ := E.big n (by omega)
      have hl : LessReads P lf #[.pointer (some ⟨bx, 0, none⟩)] (Value.int .u32) ltI g 0 n w := by
        intro m os dk hs i1 j1 hi1 hj1
        have e1 : sortWorld (Value.int .u32) w g 0 m dk os = putRow (Value.int .u32) (Sort.grow (Sort.ahead w m) os) g 0 dk := by
          unfold sortWorld; rw [putRow_grow _ (Sort.ahead w m) _ g 0 _ hgl]
        have hHg : Holds (Value.int .u32) (Sort.grow (Sort.ahead w m) os) g 0 ks.toArray := holds_grow _ _ _ g 0 _ hgl (holds_ahead _ _ _ _ _ _ hH)
        refine hless g 0 cap bx n _ (fun t => dk[t]!) ?_ (fun t ht => ?_) i1 j1 hi1 hj1
        · rw [e1, cell?_putRow_other _ _ g 0 dk _ (Or.inl (by show bx ≠ g; exact hne.symm)), cell?_grow _ _ _ (by show bx < (Sort.ahead w m).heap.size; exact hbl)]
          show w.cell? _ = _
          simp [World.cell?, hbx]
        · rw [e1]; exact cell?_putRow _ _ g 0 ks.toArray dk hHg (by rw [hs, hsz]) t (by omega)
      have hS := Any.sort_Slice_sorted E.lays t e i ie E.hi E.hd E.hpk E.hie ke E.hke E.hs1 E.hagg (Value.int .u32) (fun _ => rfl) ltI swo_ltI lf _ eg g 0 cap ks.toArray (by omega) (by omega) f (by rw [hsz]; exact hf) gS hx w (by rw [hsz]; exact hl) hH hgl
      rw [hsz] at hS
      refine hS.mono ?_
      rintro e1 w' ⟨rfl, d', m, os, hp, hso, rfl⟩
      have hd' : d' = (srt ks).toArray := by
        have := srt_eq ks.toArray d' (by rw [hsz]; exact hp) (by rw [hsz]; exact hso)
        apply Array.ext'
        simpa using this
      subst hd'
      have hb' := heap_sortedU (w := w) (n := m) (os := os) (srt ks).toArray hg
      have hcl : n ≤ cur.size := by rw [hcs]; omega
      have hw' : Hp H ([(g, .cells (putCells (Value.int .u32) 0 (srt ks).toArray cur) e' (0, 0))] :: [(bx, .cells #[.slice (some ⟨g, 0, none⟩) n cap] T (0, 0))] :: L) (grow (putRow (Value.int .u32) (Sort.ahead w m) g 0 (srt ks).toArray) os) := by
        refine Hp.grow ?_ os
        refine (hw.ahead m).turn .head rfl rfl rfl ?_ ?_
        · simp [putRow, mapBlock, Sort.ahead, Array.getElem?_modify, hg, onCells]
        · intro k hk
          simp [putRow, mapBlock, Sort.ahead, Array.getElem?_modify, hk.symm]
      refine ⟨_, H, _, rfl, Fz.le.refl H, hw', rfl, _, rfl, ?_, .inr ⟨g, _, rfl, rfl, hnc, hcm, ?_, ?_⟩⟩
      · simp [u32s, srt_length, hlen]
      · simpa [putCells] using hcs
      · have := take_putU cur (srt ks) (by rw [srt_length, hlen]; exact hcl)
        rw [srt_length, hlen] at this
        simpa using this
end Go.Sx

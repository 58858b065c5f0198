/- Known tags, read: what is read of a part that has some; what was written is read back just so. -/
import Derived.Test.YtdjfaejkhpifhaaGreatDoorTagX
import Derived.Test.YtdjfaejkhpifhaaGreatDoorBkL
set_option linter.unusedVariables false
set_option linter.unusedSimpArgs false
namespace Go.Sx
structure KS where
  l : List Tr
  u : List (Int × List UInt8)
  r : Rd
/-- one tag is read: a known one into its field, another one among the unknown -/
def kStep (fs : List Fd) (v : Int) (s : KS) : KS :=
  match fs[tgI fs (rU s.r).1]? with
  | none => ⟨s.l, setTag (rU s.r).1 (rSpan (rU (rU s.r).2).1 (rU (rU s.r).2).2).1.1 s.u, (rSpan (rU (rU s.r).2).1 (rU (rU s.r).2).2).2⟩
  | some f =>
    if (decF f v true ⟨(rSpan (rU (rU s.r).2).1 (rU (rU s.r).2).2).1.1, false, !(rSpan (rU (rU s.r).2).1 (rU (rU s.r).2).2).1.2⟩).2.bad then ⟨s.l, s.u, .out⟩
    else ⟨s.l.set (tgI fs (rU s.r).1) (decF f v true ⟨(rSpan (rU (rU s.r).2).1 (rU (rU s.r).2).2).1.1, false, !(rSpan (rU (rU s.r).2).1 (rU (rU s.r).2).2).1.2⟩).1, s.u, (rSpan (rU (rU s.r).2).1 (rU (rU s.r).2).2).2⟩
def kSteps (fs : List Fd) (v : Int) : Nat → KS → KS
  | 0, s => s
  | n + 1, s => kSteps fs v n (kStep fs v s)
theorem kSteps_succ (fs : List Fd) (v : Int) : ∀ (n : Nat) (s : KS), kSteps fs v (n + 1) s = kStep fs v (kSteps fs v n s)
  | 0, _ => rfl
  | n + 1, s => kSteps_succ fs v n (kStep fs v s)
theorem kSteps_add (fs : List Fd) (v : Int) : ∀ (n m : Nat) (s : KS), kSteps fs v (n + m) s = kSteps fs v m (kSteps fs v n s)
  | 0, m, s => by rw [Nat.zero_add]; rfl
  | n + 1, m, s => by rw [show n + 1 + m = n + m + 1 by omega]; exact kSteps_add fs v n m (kStep fs v s)
theorem kStep_bad {fs : List Fd} {v : Int} {s : KS} (h : s.r.bad = true) : (kStep fs v s).r.bad = true := by
  unfold kStep
  split
  · exact rSpan_bad (rU_bad (rU_bad h))
  · split
    · rfl
    · exact rSpan_bad (rU_bad (rU_bad h))
theorem kSteps_bad {fs : List Fd} {v : Int} : ∀ {n : Nat} {s : KS}, s.r.bad = true → (kSteps fs v n s).r.bad = true
  | 0, _, h => h
  | n + 1, _, h => kSteps_bad (n := n) (kStep_bad h)
theorem kSteps_mono {fs : List Fd} {v : Int} {k n : Nat} {s : KS} (hk : k ≤ n) (h : (kSteps fs v k s).r.bad = true) : (kSteps fs v n s).r.bad = true := by
  rw [show n = k + (n - k) by omega, kSteps_add]
  exact kSteps_bad h
theorem kStep_shr (fs : List Fd) (v : Int) (s : KS) : (kStep fs v s).r.s.length ≤ s.r.s.length := by
  have h : (rSpan (rU (rU s.r).2).1 (rU (rU s.r).2).2).2.s.length ≤ s.r.s.length := Nat.le_trans (rSpan_len _ _) (Nat.le_trans (rU_len _) (rU_len _))
  unfold kStep
  split
  · exact h
  · split
    · exact Nat.zero_le _
    · exact h
theorem kSteps_shr (fs : List Fd) (v : Int) : ∀ (n : Nat) (s : KS), (kSteps fs v n s).r.s.length ≤ s.r.s.length
  | 0, _ => Nat.le_refl _
  | n + 1, s => Nat.le_trans (kSteps_shr fs v n _) (kStep_shr fs v s)
/-- What is read of a part with known tags. -/
def decPK (fs : List Fd) (v : Int) (r : Rd) : Tr × Rd :=
  (.mk 0 [] false (kSteps fs v (rU (decFs fs v true r).2).1 ⟨(decFs fs v true r).1, [], (rU (decFs fs v true r).2).2⟩).l (kSteps fs v (rU (decFs fs v true r).2).1 ⟨(decFs fs v true r).1, [], (rU (decFs fs v true r).2).2⟩).u,
    (kSteps fs v (rU (decFs fs v true r).2).1 ⟨(decFs fs v true r).1, [], (rU (decFs fs v true r).2).2⟩).r)
def decM (fs : List Fd) (v : Int) (flex : Bool) (r : Rd) : Tr × Rd := if flex then decPK fs v r else decP fs v false r
/-! ### A field without its tag -/
def untag : Fd → Fd
  | .mk kind frm to nul _ df of sub => .mk kind frm to nul (-1) df of sub
theorem untag_B (f : Fd) (v : Int) (flex : Bool) (t : Tr) : fieldB (untag f) v flex t = fieldB f v flex t := by cases f; rw [fieldB_eq, fieldB_eq]; rfl
theorem untag_dec (f : Fd) (v : Int) (flex : Bool) (r : Rd) : decF (untag f) v flex r = decF f v flex r := by cases f; rw [decF_eq, decF_eq]; rfl
theorem untag_bk (f : Fd) (v : Int) (flex : Bool) (t : Tr) : bkF (untag f) v flex t = bkF f v flex t := by cases f; rw [bkF_eq, bkF_eq]; rfl
theorem untag_has (f : Fd) (v : Int) : (untag f).has v = f.has v := by cases f; rfl
/-- What is asked of a known tag. -/
structure TgOk (f : Fd) : Prop where
  all : f.frm ≤ 0 ∧ f.to < 0
  nul : f.nul < 0
  kind : f.kind = 0 ∨ f.kind = 4 ∨ f.kind = 11
  b : f.kind = 0 → f.df = 0
  i : f.kind = 4 → -9223372036854775808 ≤ f.df ∧ f.df ≤ 9223372036854775807
structure GoodK (v : Int) (flex : Bool) (fs : List Fd) : Prop where
  v0 : 0 ≤ v
  few : known fs ≤ 1000
  rd : RdGood v flex (fs.map untag)
  once : Once fs
  tg : ∀ f ∈ fs, 0 ≤ f.tag → TgOk f
def tgOkB (f : Fd) : Bool := decide (f.tag < 0) || (decide (f.frm ≤ 0) && decide (f.to < 0) && decide (f.nul < 0) && (decide (f.kind = 0 ∧ f.df = 0) || decide (f.kind = 4 ∧ -9223372036854775808 ≤ f.df ∧ f.df ≤ 9223372036854775807) || decide (f.kind = 11)))
theorem GoodK.of {v : Int} {flex : Bool} {fs : List Fd} (hv : 0 ≤ v) (hk : known fs ≤ 1000) (h1 : rdFs v flex (fs.map untag) = true) (h2 : Once fs) (h3 : fs.all tgOkB = true) : GoodK v flex fs := by
  refine ⟨hv, hk, RdGood.of h1, h2, fun f hf ht => ?_⟩
  have := List.all_eq_true.1 h3 f hf
  unfold tgOkB at this
  simp only [Bool.or_eq_true, Bool.and_eq_true, decide_eq_true_eq] at this
  rcases this with h | ⟨⟨⟨h4, h5⟩, h6⟩, h7⟩
  · omega
  · refine ⟨⟨h4, h5⟩, h6, by omega, fun h => by omega, fun h => by omega⟩
theorem GoodK.fd {v : Int} {flex : Bool} {fs : List Fd} (h : GoodK v flex fs) {f : Fd} (hf : f ∈ fs) : FdOk v flex (untag f) ∧ RdGood v flex f.sub := by
  cases h.rd with
  | mk _ h1 h2 =>
    have hm : untag f ∈ fs.map untag := List.mem_map.2 ⟨f, hf, rfl⟩
    refine ⟨h1 _ hm, ?_⟩
    have := h2 _ hm
    cases f; exact this
/-- one field is read back just so -/
theorem GoodK.back {v : Int} {flex : Bool} {fs : List Fd} (h : GoodK v flex fs) {f : Fd} (hf : f ∈ fs) (hh : f.has v = true) (t : Tr) (ht : Ran t) (nn : Bool) (r : List UInt8) : ∃ nn', decF f v flex ⟨fieldB f v flex t ++ r, false, nn⟩ = (bkF f v flex t, ⟨r, false, nn'⟩) := by
  obtain ⟨h1, h2⟩ := h.fd hf
  have hs : (untag f).sub = f.sub := by cases f; rfl
  rw [← untag_dec, ← untag_B, ← untag_bk, decF_eq, fieldB_eq, bkF_eq, hs]
  refine bk_field h1 (by rw [untag_has]; exact hh) (read_bk h2) (fun h11 h10 t => ?_) ht nn r
  have h3 := (h1.of h11).2.2 h10 (by rw [untag_has]; exact hh)
  rw [hs] at h3
  exact writes_pos h2.known h3 t
def bkFsT (v : Int) (flex : Bool) (t : Tr) : List Fd → Nat → List Tr
  | [], _ => []
  | f :: r, i => (if decide (f.tag < 0) && f.has v then bkF f v flex (t.at i) else dflF f) :: bkFsT v flex t r (i + 1)
theorem bkFsT_len (v : Int) (flex : Bool) (t : Tr) : ∀ (fs : List Fd) (i : Nat), (bkFsT v flex t fs i).length = fs.length
  | [], _ => rfl
  | f :: r, i => by rw [bkFsT]; simp [bkFsT_len v flex t r]
theorem bkFsT_get {v : Int} {flex : Bool} {t : Tr} : ∀ (fs : List Fd) (i j : Nat) (hj : j < fs.length), (bkFsT v flex t fs i)[j]? = some (if decide (fs[j].tag < 0) && fs[j].has v then bkF fs[j] v flex (t.at (i + j)) else dflF fs[j])
  | [], _, j, hj => by simp at hj
  | f :: r, i, 0, _ => by rw [bkFsT]; simp
  | f :: r, i, j + 1, hj => by
    rw [bkFsT, List.getElem?_cons_succ, bkFsT_get r (i + 1) j (by simpa using hj), show i + 1 + j = i + (j + 1) by omega]; rfl
theorem bk_fsT {v : Int} {flex : Bool} {t : Tr} (ht : Ran t) : ∀ (fs : List Fd) (i : Nat), (∀ f ∈ fs, f.has v = true → ∀ t, Ran t → ∀ nn r, ∃ nn', decF f v flex ⟨fieldB f v flex t ++ r, false, nn⟩ = (bkF f v flex t, ⟨r, false, nn'⟩)) →
    ∀ nn r, ∃ nn', decFs fs v flex ⟨plainR v flex t fs i ++ r, false, nn⟩ = (bkFsT v flex t fs i, ⟨r, false, nn'⟩)
  | [], i, _, nn, r => ⟨nn, by rw [decFs, bkFsT]; simp [plainR]⟩
  | f :: fs, i, h, nn, r => by
    have h2 := h f List.mem_cons_self
    have hrest := bk_fsT ht fs (i + 1) (fun f hf => h f (List.mem_cons_of_mem _ hf))
    rw [plainR, decFs, bkFsT]
    cases hh : (decide (f.tag < 0) && f.has v) with
    | true =>
      rw [if_pos rfl, if_pos rfl, if_pos rfl, List.append_assoc]
      rw [Bool.and_eq_true] at hh
      obtain ⟨nn1, g1⟩ := h2 hh.2 (t.at i) (ht.at i) nn (plainR v flex t fs (i + 1) ++ r)
      rw [g1]
      obtain ⟨nn2, g3⟩ := hrest nn1 r
      simp only []
      rw [g3]
      exact ⟨nn2, rfl⟩
    | false =>
      rw [if_neg (by decide), if_neg (by decide), if_neg (by decide), List.nil_append]
      obtain ⟨nn2, g3⟩ := hrest nn r
      simp only []
      rw [g3]
      exact ⟨nn2, rfl⟩
/-! ### The known tags -/
theorem tgI_tag {fs : List Fd} {c : Nat} (h : tgI fs c < fs.length) : fs[tgI fs c].tag = (c : Int) :=
  of_decide_eq_true (List.findIdx_getElem (xs := fs) (p := fun f : Fd => decide (f.tag = (c : Int))) (w := h))
theorem tgI_none {fs : List Fd} {c : Nat} (h : known fs ≤ c) : fs[tgI fs c]? = none := by
  rcases Nat.lt_or_ge (tgI fs c) fs.length with hl | hl
  · have h1 := tgI_tag hl
    have key : ∀ (l : List Fd) (f : Fd), f ∈ l → 0 ≤ f.tag → f.tag.toNat + 1 ≤ known l := by
      intro l
      induction l with
      | nil => intro f hf; cases hf
      | cons g r ih =>
        intro f hf h0
        simp only [known]
        rcases List.mem_cons.1 hf with rfl | hf
        · rw [if_pos h0]; omega
        · have := ih f hf h0; omega
    have := key fs _ (List.getElem_mem hl) (by omega)
    omega
  · exact List.getElem?_eq_none (by omega)
theorem tgI_once {fs : List Fd} (h : Once fs) : ∀ {j : Nat} (hj : j < fs.length), 0 ≤ fs[j].tag → tgI fs fs[j].tag.toNat = j := by
  intro j hj h0
  have hc : ((fs[j].tag.toNat : Nat) : Int) = fs[j].tag := by omega
  have hl : tgI fs fs[j].tag.toNat < fs.length := List.findIdx_lt_length_of_exists ⟨fs[j], List.getElem_mem hj, by rw [hc]; simp⟩
  have h1 := tgI_tag hl
  rw [hc] at h1
  have hp := List.pairwise_iff_getElem.1 h
  rcases Nat.lt_trichotomy (tgI fs fs[j].tag.toNat) j with h2 | h2 | h2
  · have := hp _ _ hl hj h2; omega
  · exact h2
  · have := hp _ _ hj hl h2; omega
theorem kStep_known {fs : List Fd} {v : Int} {c : Nat} {f : Fd} {x y : Tr} {l : List Tr} {u : List (Int × List UInt8)} {r : List UInt8} {nn : Bool} (hf : fs[tgI fs c]? = some f) (hc : c < 4294967296) (hb : (fieldB f v true x).length < 4294967296)
    (hy : ∀ nn, ∃ nn', decF f v true ⟨fieldB f v true x, false, nn⟩ = (y, ⟨[], false, nn'⟩)) :
    kStep fs v ⟨l, u, ⟨tagB c (fieldB f v true x) ++ r, false, nn⟩⟩ = ⟨l.set (tgI fs c) y, u, ⟨r, false, true⟩⟩ := by
  have e1 : rU ⟨tagB c (fieldB f v true x) ++ r, false, nn⟩ = (c, ⟨uvar (fieldB f v true x).length ++ (fieldB f v true x ++ r), false, true⟩) := by
    unfold tagB; rw [List.append_assoc, List.append_assoc]; exact rU_uvar hc _ _ _
  have e2 : rU ⟨uvar (fieldB f v true x).length ++ (fieldB f v true x ++ r), false, true⟩ = ((fieldB f v true x).length, ⟨fieldB f v true x ++ r, false, true⟩) := rU_uvar hb _ _ _
  obtain ⟨nn', e3⟩ := hy true
  unfold kStep
  simp only [e1, e2, rSpan_app, hf, Bool.not_true, Bool.not_false, e3]
  rfl
theorem kStep_unk {fs : List Fd} {v : Int} {k : Nat} {b : List UInt8} {l : List Tr} {u : List (Int × List UInt8)} {r : List UInt8} {nn : Bool} (hk : known fs ≤ k) (hc : k < 4294967296) (hb : b.length < 4294967296) :
    kStep fs v ⟨l, u, ⟨tagB k b ++ r, false, nn⟩⟩ = ⟨l, setTag k b u, ⟨r, false, true⟩⟩ := by
  have e1 : rU ⟨tagB k b ++ r, false, nn⟩ = (k, ⟨uvar b.length ++ (b ++ r), false, true⟩) := by
    unfold tagB; rw [List.append_assoc, List.append_assoc]; exact rU_uvar hc _ _ _
  have e2 : rU ⟨uvar b.length ++ (b ++ r), false, true⟩ = (b.length, ⟨b ++ r, false, true⟩) := rU_uvar hb _ _ _
  unfold kStep
  simp only [e1, e2, rSpan_app, tgI_none hk]
def setK (fs : List Fd) (v : Int) (t : Tr) (l : List Tr) (c : Nat) : List Tr := match fs[tgI fs c]? with
  | some f => l.set (tgI fs c) (bkF f v true (t.at (tgI fs c)))
  | none => l
theorem kSteps_known {fs : List Fd} {v : Int} {t : Tr} (hg : GoodK v true fs) (ht : Ran t) : ∀ (cs : List Nat), (∀ c ∈ cs, c < 4294967296 ∧ tgI fs c < fs.length ∧ (tgO fs v t c).length < 4294967296) → ∀ (l : List Tr) (u : List (Int × List UInt8)) (r : List UInt8) (nn : Bool),
    ∃ nn', kSteps fs v cs.length ⟨l, u, ⟨cs.flatMap (tgO fs v t) ++ r, false, nn⟩⟩ = ⟨cs.foldl (setK fs v t) l, u, ⟨r, false, nn'⟩⟩
  | [], _, l, u, r, nn => ⟨nn, by simp [kSteps]⟩
  | c :: cs, h, l, u, r, nn => by
    obtain ⟨h1, h2, h3⟩ := h c List.mem_cons_self
    have hf : fs[tgI fs c]? = some fs[tgI fs c] := List.getElem?_eq_getElem h2
    have htag := tgI_tag h2
    have hk := hg.tg _ (List.getElem_mem h2) (by omega)
    have hv0 := hg.v0
    have hh : fs[tgI fs c].has v = true := has_yes (by have := hk.all; omega) (.inl hk.all.2)
    have hO : tgO fs v t c = tagB c (fieldB fs[tgI fs c] v true (t.at (tgI fs c))) := by unfold tgO; rw [hf]
    have hS : setK fs v t l c = l.set (tgI fs c) (bkF fs[tgI fs c] v true (t.at (tgI fs c))) := by unfold setK; rw [hf]
    obtain ⟨nn1, ih⟩ := kSteps_known hg ht cs (fun d hd => h d (List.mem_cons_of_mem _ hd)) (setK fs v t l c) u r true
    refine ⟨nn1, ?_⟩
    rw [List.flatMap_cons, List.length_cons, List.foldl_cons]
    show kSteps fs v cs.length (kStep fs v _) = _
    rw [List.append_assoc, hO, kStep_known (y := bkF fs[tgI fs c] v true (t.at (tgI fs c))) hf h1 ?_ ?_, ← hS]
    · exact ih
    · rw [hO, tagB_len] at h3; omega
    · intro nn
      have := hg.back (List.getElem_mem h2) hh (t.at (tgI fs c)) (ht.at _) nn []
      rwa [List.append_nil] at this
theorem kSteps_unk {fs : List Fd} {v : Int} {l : List Tr} : ∀ (us acc : List (Int × List UInt8)) (r : List UInt8) (nn : Bool), (∀ p ∈ us, ((known fs : Nat) : Int) ≤ p.1 ∧ p.1 < 4294967296) → SortedU us → (∀ p ∈ acc, ∀ q ∈ us, p.1 < q.1) →
    ∃ nn', kSteps fs v us.length ⟨l, acc, ⟨(us.map fun p => tagB p.1.toNat (whole p.2)).flatten ++ r, false, nn⟩⟩ = ⟨l, acc ++ us.map wholeTag, ⟨r, false, nn'⟩⟩
  | [], acc, r, nn, _, _, _ => ⟨nn, by simp [kSteps]⟩
  | p :: us, acc, r, nn, hr, hs, ha => by
    obtain ⟨h0, h1⟩ := hr p List.mem_cons_self
    obtain ⟨hs1, hs2⟩ := List.pairwise_cons.1 hs
    have hk : ((p.1.toNat : Nat) : Int) = p.1 := by omega
    have hw := whole_le' p.2
    obtain ⟨nn', ih⟩ := kSteps_unk us (acc ++ [(p.1, whole p.2)]) r true (fun q hq => hr q (List.mem_cons_of_mem _ hq)) hs2 (fun q hq z hz => by
      rcases List.mem_append.1 hq with hq | hq
      · exact ha q hq z (List.mem_cons_of_mem _ hz)
      · rw [List.mem_singleton.1 hq]; exact hs1 z hz)
    refine ⟨nn', ?_⟩
    rw [List.map_cons, List.flatten_cons, List.length_cons]
    show kSteps fs v us.length (kStep fs v _) = _
    rw [List.append_assoc, kStep_unk (by omega) (by omega) (by omega), hk, setTag_last (fun q hq => ha q hq p List.mem_cons_self), ih]
    simp [wholeTag]
/-! ### All of it -/
def bkPK (fs : List Fd) (v : Int) (t : Tr) : Tr := .mk 0 [] false ((encT (tgU fs t) (known fs)).foldl (setK fs v t) (bkFsT v true t fs 0)) ((unknown fs t.u).map wholeTag)
theorem partB_gen {fs : List Fd} {v : Int} {t : Tr} (h : Once fs) : partB fs v true t = plainR v true t fs 0 ++ (uvar ((encT (tgU fs t) (known fs)).length + (unknown fs t.u).length) ++ ((encT (tgU fs t) (known fs)).flatMap (tgO fs v t) ++ ((unknown fs t.u).map fun p => tagB p.1.toNat (whole p.2)).flatten)) := by
  rw [partB_true, plainTo_all, tags_enc h, List.length_append, List.length_map, unkTo_len, List.flatten_append, ← List.flatMap_def, List.append_assoc]
  simp only [unkTo, List.take_length]
theorem read_bkK {fs : List Fd} {v : Int} (hg : GoodK v true fs) {t : Tr} (ht : Ran t) (h32 : (partB fs v true t).length < 4294967296) (nn : Bool) (r : List UInt8) : ∃ nn', decPK fs v ⟨partB fs v true t ++ r, false, nn⟩ = (bkPK fs v t, ⟨r, false, nn'⟩) := by
  rw [partB_gen hg.once] at h32 ⊢
  have hfew := hg.few
  have hel := encT_len (tgU fs t) (known fs)
  have hul := unknown_len fs t.u
  obtain ⟨nn1, e1⟩ := bk_fsT ht fs 0 (fun f hf hh t ht nn r => hg.back hf hh t ht nn r) nn (uvar ((encT (tgU fs t) (known fs)).length + (unknown fs t.u).length) ++ ((encT (tgU fs t) (known fs)).flatMap (tgO fs v t) ++ ((unknown fs t.u).map fun p => tagB p.1.toNat (whole p.2)).flatten) ++ r)
  have e2 : rU ⟨uvar ((encT (tgU fs t) (known fs)).length + (unknown fs t.u).length) ++ ((encT (tgU fs t) (known fs)).flatMap (tgO fs v t) ++ ((unknown fs t.u).map fun p => tagB p.1.toNat (whole p.2)).flatten) ++ r, false, nn1⟩ = ((encT (tgU fs t) (known fs)).length + (unknown fs t.u).length, ⟨(encT (tgU fs t) (known fs)).flatMap (tgO fs v t) ++ (((unknown fs t.u).map fun p => tagB p.1.toNat (whole p.2)).flatten ++ r), false, true⟩) := by
    rw [List.append_assoc, List.append_assoc]; exact rU_uvar (by omega) _ _ _
  obtain ⟨nn2, e3⟩ := kSteps_known hg ht (encT (tgU fs t) (known fs)) (fun c hc => by
    obtain ⟨h1, h2⟩ := encT_mem hc
    refine ⟨by omega, ?_, ?_⟩
    · rcases Nat.lt_or_ge (tgI fs c) fs.length with h | h
      · exact h
      · unfold tgU at h2; rw [List.getElem?_eq_none (by omega)] at h2; cases h2
    · obtain ⟨i, hi, rfl⟩ := List.getElem_of_mem hc
      have h3 := flatMap_step_le (tgO fs v t) hi
      simp only [List.length_append] at h32
      omega) (bkFsT v true t fs 0) [] (((unknown fs t.u).map fun p => tagB p.1.toNat (whole p.2)).flatten ++ r) true
  obtain ⟨nn3, e4⟩ := kSteps_unk (fs := fs) (v := v) (l := (encT (tgU fs t) (known fs)).foldl (setK fs v t) (bkFsT v true t fs 0)) (unknown fs t.u) [] r nn2 (fun p hp => ⟨unknown_least fs t.u p hp, (ht.u p (mem_unknown hp)).2⟩) (unknown_sorted fs t.u) (fun p hp => by cases hp)
  refine ⟨nn3, ?_⟩
  unfold decPK
  rw [List.append_assoc, e1]
  simp only []
  rw [e2]
  simp only []
  rw [kSteps_add, e3, e4]
  rfl
theorem setKs_len {fs : List Fd} {v : Int} {t : Tr} : ∀ (cs : List Nat) (l : List Tr), (cs.foldl (setK fs v t) l).length = l.length
  | [], _ => rfl
  | c :: cs, l => by
    rw [List.foldl_cons, setKs_len cs]
    unfold setK; split <;> simp
theorem setKs_get {fs : List Fd} {v : Int} {t : Tr} {j : Nat} (hj : j < fs.length) : ∀ (cs : List Nat) (l : List Tr), l.length = fs.length → (cs.foldl (setK fs v t) l)[j]? = if j ∈ cs.map (tgI fs) then some (bkF fs[j] v true (t.at j)) else l[j]?
  | [], l, _ => by simp
  | c :: cs, l, hl => by
    have hl2 : (setK fs v t l c).length = fs.length := by unfold setK; split <;> simp [hl]
    rw [List.foldl_cons, setKs_get hj cs _ hl2, List.map_cons]
    by_cases hm : j ∈ cs.map (tgI fs)
    · rw [if_pos hm, if_pos (List.mem_cons_of_mem _ hm)]
    · rw [if_neg hm]
      by_cases he : tgI fs c = j
      · rw [if_pos (by rw [he]; exact List.mem_cons_self)]
        unfold setK
        rw [he, List.getElem?_eq_getElem hj]
        simp only []
        rw [List.getElem?_set_self (by omega)]
      · rw [if_neg (by intro h; rcases List.mem_cons.1 h with h | h; exact he h.symm; exact hm h)]
        unfold setK
        split
        · rw [List.getElem?_set_ne he]
        · rfl
theorem enc_iff {fs : List Fd} {t : Tr} (h : Once fs) {j : Nat} (hj : j < fs.length) : j ∈ (encT (tgU fs t) (known fs)).map (tgI fs) ↔ 0 ≤ fs[j].tag ∧ fieldU fs[j] (t.at j) = false := by
  constructor
  · intro hm
    obtain ⟨c, hc, rfl⟩ := List.mem_map.1 hm
    have h1 := (encT_mem hc).2
    unfold tgU at h1
    rw [List.getElem?_eq_getElem hj] at h1
    exact ⟨by rw [tgI_tag hj]; omega, h1⟩
  · intro ⟨h0, hu⟩
    have hi := tgI_once h hj h0
    refine List.mem_map.2 ⟨fs[j].tag.toNat, ?_, hi⟩
    have hk : fs[j].tag.toNat < known fs := by
      rcases Nat.lt_or_ge fs[j].tag.toNat (known fs) with h' | h'
      · exact h'
      · have := tgI_none h'
        rw [hi, List.getElem?_eq_getElem hj] at this; cases this
    unfold encT
    rw [List.mem_filter, List.mem_range]
    refine ⟨hk, ?_⟩
    unfold tgU
    rw [hi, List.getElem?_eq_getElem hj]
    simp [hu]
theorem bkPK_at {fs : List Fd} {v : Int} {t : Tr} (h : Once fs) {j : Nat} (hj : j < fs.length) : (bkPK fs v t).at j = if 0 ≤ fs[j].tag ∧ fieldU fs[j] (t.at j) = false then bkF fs[j] v true (t.at j) else if decide (fs[j].tag < 0) && fs[j].has v then bkF fs[j] v true (t.at j) else dflF fs[j] := by
  have h1 := setKs_get (v := v) (t := t) hj (encT (tgU fs t) (known fs)) (bkFsT v true t fs 0) (bkFsT_len v true t fs 0)
  have h2 := bkFsT_get (v := v) (flex := true) (t := t) fs 0 j hj
  rw [Nat.zero_add] at h2
  rw [h2] at h1
  by_cases hm : 0 ≤ fs[j].tag ∧ fieldU fs[j] (t.at j) = false
  · rw [if_pos ((enc_iff h hj).2 hm)] at h1
    rw [if_pos hm]
    exact at_get h1
  · rw [if_neg (fun h' => hm ((enc_iff h hj).1 h'))] at h1
    rw [if_neg hm]
    exact at_get h1
/-- one field: it may be written again, and is written alike -/
theorem fieldB_bk1 {v : Int} {flex : Bool} {f : Fd} (hf : FdOk v flex f) (hs : RdGood v flex f.sub) (x : Tr) : fieldB f v flex (bkF f v flex x) = fieldB f v flex x := by
  have ih' := partB_bk hs
  rw [bkF_eq, fieldB_eq, fieldB_eq]
  have hn := bkF'_nul (f := f) (sub := bkP f.sub v flex) (v := v) (t := x) (fun _ => rfl) hf.nul
  unfold fieldB'
  simp only [hn]
  by_cases h11 : f.kind = 11
  · rw [if_pos h11, if_pos h11]
    have e2 : (if f.isNul v x = true then [] else (bkF' f (bkP f.sub v flex) v x).things) = (if f.isNul v x = true then [] else x.things).map (bkV f.of (bkP f.sub v flex) false) := by
      cases hq : f.isNul v x with
      | true => rfl
      | false =>
        unfold bkF'
        rw [if_pos h11, hq]
        show (List.map _ x.things).take most = List.map _ x.things
        refine List.take_of_length_le ?_
        rw [List.length_map]
        exact things_len x
    rw [e2, List.length_map, List.flatMap_map]
    congr 2
    funext y
    exact vB_bk ih'
  · have h10 : ¬ (f.kind = 10 ∧ 0 ≤ f.nul) := fun ⟨h1, h2⟩ => by have := hf.nul h2; omega
    rw [if_neg h11, if_neg h11, if_neg h10, if_neg h10]
    unfold bkF'
    rw [if_neg h11]
    exact vB_bk ih'
theorem ok_bk1 {v : Int} {flex : Bool} {f : Fd} (hs : RdGood v flex f.sub) (x : Tr) : OkFE f v (bkF f v flex x) := by
  have ih' := ok_bk hs
  rw [bkF_eq]
  unfold bkF'
  have hnul : f.isNul v x = true → 0 ≤ f.nul ∧ f.nul ≤ v := fun hb => by
    unfold Fd.isNul at hb
    simp at hb; exact ⟨hb.1.2, hb.2⟩
  by_cases h11 : f.kind = 11
  · rw [if_pos h11]
    refine ⟨fun hn => ?_, fun h => by omega, fun h => by omega, fun _ => ?_, fun _ y hy => ?_⟩
    · have h0 : (f.isNul v x || (decide (f.nul < 0) && (if f.isNul v x then [] else x.things).isEmpty)) = true := hn
      rw [Bool.or_eq_true, Bool.and_eq_true] at h0
      rcases h0 with h0 | ⟨h0, h1⟩
      · exact .inl (hnul h0)
      · refine .inr ⟨h11, .inr (by simpa using h0), ?_⟩
        show List.map _ _ = []
        rw [List.isEmpty_iff.1 h1]; rfl
    · show (List.map _ _).length ≤ _
      rw [List.length_map]
      split
      · simp
      · exact things_len x
    · obtain ⟨z, _, rfl⟩ := List.mem_map.1 (show y ∈ List.map _ _ from hy)
      refine ⟨fun h => okV h, fun h => ?_⟩
      rw [h, bV10]; exact ih' z
  · rw [if_neg h11]
    by_cases h8 : f.kind = 8 ∨ f.kind = 9
    · refine ⟨fun hn => ?_, fun _ => okV h8, fun h => by omega, fun h => absurd h h11, fun h => absurd h h11⟩
      rw [bV8 h8] at hn
      exact .inl (hnul hn)
    · by_cases h10 : f.kind = 10
      · refine ⟨fun hn => ?_, fun h => absurd h h8, fun _ _ => ?_, fun h => absurd h h11, fun h => absurd h h11⟩
        · rw [h10, bV10] at hn; cases hn
        · rw [h10, bV10]; exact ih' x
      · have hn : (bkV f.kind (bkP f.sub v flex) (f.isNul v x) x).nul = false := by
          by_cases h7 : f.kind = 7
          · rw [h7, bV7]; rfl
          · rw [bVn h7 (by omega) (by omega) h10]; rfl
        exact ⟨fun h => (by rw [hn] at h; cases h), fun h => absurd h h8, fun h => absurd h h10, fun h => absurd h h11, fun h => absurd h h11⟩
theorem ok_dflT {f : Fd} {v : Int} (h : TgOk f) : OkFE f v (dflF f) := by
  rw [dflF_eq]
  unfold dflF'
  rcases h.kind with k | k | k
  · rw [if_neg (by omega), if_neg (by omega), if_neg (by omega), if_neg (by omega)]
    exact ⟨fun h => (by cases h), fun h => (by omega), fun h => (by omega), fun h => (by omega), fun h => (by omega)⟩
  · rw [if_neg (by omega), if_neg (by omega), if_neg (by omega), if_neg (by omega)]
    exact ⟨fun h => (by cases h), fun h => (by omega), fun h => (by omega), fun h => (by omega), fun h => (by omega)⟩
  · rw [if_neg (by omega), if_neg (by omega), if_pos (.inr k)]
    exact ⟨fun _ => .inr ⟨k, .inr h.nul, rfl⟩, fun h => (by omega), fun h => (by omega), fun _ => (by simp [Tr.l]), fun _ y hy => (by cases hy)⟩
theorem ok_bkK {fs : List Fd} {v : Int} (hg : GoodK v true fs) (t : Tr) : OkP fs v (bkPK fs v t) := by
  refine ⟨okU_fit fs t.u, OkFs_iff.2 fun j hj hh => ?_⟩
  rw [Nat.zero_add, bkPK_at hg.once hj]
  have hm := List.getElem_mem hj
  split
  · exact ok_bk1 (hg.fd hm).2 _
  · rename_i h1
    split
    · exact ok_bk1 (hg.fd hm).2 _
    · rename_i h2
      have h0 : 0 ≤ fs[j].tag := by
        rw [hh] at h2
        simp at h2; omega
      exact ok_dflT (hg.tg _ hm h0)
theorem things_empty' (x : Tr) (g : Tr → Tr) : (((if false = true then [] else x.things)).map g).isEmpty = x.l.isEmpty := by
  show (x.things.map g).isEmpty = _
  unfold Tr.things
  cases x.l with
  | nil => rfl
  | cons y l => rfl
theorem FU_bk {f : Fd} {v : Int} {flex : Bool} {x : Tr} (h : TgOk f) : fieldU f (bkF f v flex x) = fieldU f x := by
  have hnul : f.isNul v x = false := by unfold Fd.isNul; rw [decide_eq_false (show ¬ 0 ≤ f.nul by have := h.nul; omega)]; simp
  rw [bkF_eq]
  unfold bkF'
  rcases h.kind with k | k | k
  · rw [if_neg (by omega), FU_bool k, FU_bool k, k, bVn (by decide) (by decide) (by decide) (by decide)]
    show decide (x.n % 2 % 2 = f.df) = _
    rw [Int.emod_emod_of_dvd _ (Int.dvd_refl 2)]
  · rw [if_neg (by omega), k, bVn (by decide) (by decide) (by decide) (by decide)]
    rw [fieldU_eq, fieldU_eq]; unfold usual'
    simp only [k]
    rfl
  · rw [if_pos k, FU_list k, FU_list k, hnul]
    exact things_empty' x _
theorem FU_dflT {f : Fd} (h : TgOk f) : fieldU f (dflF f) = true := by
  rw [dflF_eq]
  unfold dflF'
  rcases h.kind with k | k | k
  · rw [if_neg (by omega), if_neg (by omega), if_neg (by omega), if_neg (by omega), FU_bool k, h.b k]; rfl
  · rw [if_neg (by omega), if_neg (by omega), if_neg (by omega), if_neg (by omega)]
    exact (FU_i64 k (by exact h.i k) (h.i k)).trans (decide_eq_true rfl)
  · rw [if_neg (by omega), if_neg (by omega), if_pos (.inr k), FU_list k]; rfl
theorem plainR_congrT {v : Int} {flex : Bool} {x y : Tr} : ∀ (fs : List Fd) (i : Nat), (∀ j (hj : j < fs.length), fs[j].tag < 0 → fs[j].has v = true → fieldB fs[j] v flex (x.at (i + j)) = fieldB fs[j] v flex (y.at (i + j))) → plainR v flex x fs i = plainR v flex y fs i
  | [], _, _ => rfl
  | f :: r, i, h => by
    have ih := plainR_congrT (v := v) (flex := flex) (x := x) (y := y) r (i + 1) (fun j hj ht hh => by
      have h2 := h (j + 1) (by simpa using hj) ht hh
      have e : i + 1 + j = i + (j + 1) := by omega
      rw [e]; exact h2)
    show (if _ then _ else _) ++ plainR v flex x r (i + 1) = (if _ then _ else _) ++ plainR v flex y r (i + 1)
    rw [ih]
    congr 1
    cases hq : (decide (f.tag < 0) && f.has v) with
    | false => rfl
    | true =>
      rw [Bool.and_eq_true, decide_eq_true_eq] at hq
      exact h 0 (by simp) hq.1 hq.2
theorem partB_bkK {fs : List Fd} {v : Int} (hg : GoodK v true fs) (t : Tr) : partB fs v true (bkPK fs v t) = partB fs v true t := by
  have hat := fun {j : Nat} (hj : j < fs.length) => bkPK_at (v := v) (t := t) hg.once hj
  have hB : ∀ j (hj : j < fs.length), fieldB fs[j] v true (bkF fs[j] v true (t.at j)) = fieldB fs[j] v true (t.at j) := fun j hj => by
    obtain ⟨h1, h2⟩ := hg.fd (List.getElem_mem hj)
    have h3 := fieldB_bk1 h1 (by rw [show (untag fs[j]).sub = fs[j].sub by cases fs[j]; rfl]; exact h2) (t.at j)
    rwa [untag_B, untag_B, untag_bk] at h3
  have hU : tgU fs (bkPK fs v t) = tgU fs t := by
    funext c
    unfold tgU
    rcases Nat.lt_or_ge (tgI fs c) fs.length with hl | hl
    · rw [List.getElem?_eq_getElem hl]
      simp only []
      have h0 : 0 ≤ fs[tgI fs c].tag := by rw [tgI_tag hl]; omega
      have hk := hg.tg _ (List.getElem_mem hl) h0
      rw [hat hl]
      split
      · exact FU_bk hk
      · rename_i hn
        rw [if_neg (by simp; omega), FU_dflT hk]
        cases hq : fieldU fs[tgI fs c] (t.at (tgI fs c)) with
        | true => rfl
        | false => exact absurd ⟨h0, hq⟩ hn
    · rw [List.getElem?_eq_none (by omega)]
  have hO : ∀ c ∈ encT (tgU fs t) (known fs), tgO fs v (bkPK fs v t) c = tgO fs v t c := by
    intro c hc
    have h1 := (encT_mem hc).2
    unfold tgU at h1
    unfold tgO
    rcases Nat.lt_or_ge (tgI fs c) fs.length with hl | hl
    · rw [List.getElem?_eq_getElem hl] at h1 ⊢
      simp only [] at h1 ⊢
      rw [hat hl, if_pos ⟨by rw [tgI_tag hl]; omega, h1⟩, hB _ hl]
    · rw [List.getElem?_eq_none (by omega)]
  rw [partB_gen hg.once, partB_gen hg.once, hU]
  have hu : unknown fs (bkPK fs v t).u = (unknown fs t.u).map wholeTag := (okU_fit fs t.u).1
  rw [hu]
  congr 1
  · refine plainR_congrT fs 0 fun j hj ht hh => ?_
    rw [Nat.zero_add, hat hj, if_neg (by omega), if_pos (by simp [ht, hh]), hB j hj]
  · rw [List.length_map]
    congr 2
    · rw [List.flatMap_def, List.flatMap_def]
      congr 1
      exact List.map_congr_left hO
    · rw [List.map_map]
      congr 1
      apply List.map_congr_left
      intro p _
      simp [wholeTag, whole_whole]
/-! ### What the walk of a reader asks for -/
theorem step_tag {f : Fd} {v : Int} {flex : Bool} {r : Rd} (h : 0 ≤ f.tag) : stepF f v flex r = (dflF f, r) := by
  unfold stepF
  rw [decide_eq_false (show ¬ f.tag < 0 by omega), Bool.false_and, if_neg (by decide)]
theorem untag_tag (f : Fd) : (untag f).tag = -1 := by cases f; rfl
theorem step_untag {f : Fd} {v : Int} {r : Rd} (h : f.has v = true) : stepF (untag f) v true r = decF f v true r := by
  unfold stepF
  rw [untag_has, h, untag_tag, if_pos (by decide), untag_dec]
theorem kStep_yes {fs : List Fd} {v : Int} {s : KS} {c i : Nat} {f : Fd} (hk : (rU s.r).1 = c) (hi : tgI fs c = i) (hf : fs[i]? = some f) :
    kStep fs v s = if (decF f v true ⟨(rSpan (rU (rU s.r).2).1 (rU (rU s.r).2).2).1.1, false, !(rSpan (rU (rU s.r).2).1 (rU (rU s.r).2).2).1.2⟩).2.bad = true then ⟨s.l, s.u, .out⟩
      else ⟨s.l.set i (decF f v true ⟨(rSpan (rU (rU s.r).2).1 (rU (rU s.r).2).2).1.1, false, !(rSpan (rU (rU s.r).2).1 (rU (rU s.r).2).2).1.2⟩).1, s.u, (rSpan (rU (rU s.r).2).1 (rU (rU s.r).2).2).2⟩ := by
  unfold kStep
  simp only [hk, hi, hf]
theorem kStep_no {fs : List Fd} {v : Int} {s : KS} (h : known fs ≤ (rU s.r).1) :
    kStep fs v s = ⟨s.l, setTag (rU s.r).1 (rSpan (rU (rU s.r).2).1 (rU (rU s.r).2).2).1.1 s.u, (rSpan (rU (rU s.r).2).1 (rU (rU s.r).2).2).2⟩ := by
  unfold kStep
  rw [tgI_none h]
theorem rSpan_take (l : Int) (r : Rd) : (rSpan l r).1.1.length ≤ r.s.length := by
  unfold rSpan
  split
  · simp
  · simp only [List.length_take]; omega
/-! ### No known tag comes twice -/
def FreshN (fs : List Fd) (v : Int) : Nat → KS → Prop
  | 0, _ => True
  | n + 1, s => (∀ f, fs[tgI fs (rU s.r).1]? = some f → s.l[tgI fs (rU s.r).1]? = some (dflF f)) ∧ FreshN fs v n (kStep fs v s)
theorem FreshN.at_ {fs : List Fd} {v : Int} : ∀ {n : Nat} {s : KS}, FreshN fs v n s → ∀ k, k < n → ∀ f, fs[tgI fs (rU (kSteps fs v k s).r).1]? = some f → (kSteps fs v k s).l[tgI fs (rU (kSteps fs v k s).r).1]? = some (dflF f)
  | n + 1, s, h, 0, _ => h.1
  | n + 1, s, h, k + 1, hk => FreshN.at_ (n := n) h.2 k (by omega)
theorem FreshN.add {fs : List Fd} {v : Int} : ∀ {n m : Nat} {s : KS}, FreshN fs v n s → FreshN fs v m (kSteps fs v n s) → FreshN fs v (n + m) s
  | 0, m, s, _, h => by rw [Nat.zero_add]; exact h
  | n + 1, m, s, h, h2 => by rw [show n + 1 + m = n + m + 1 by omega]; exact ⟨h.1, FreshN.add h.2 h2⟩
def FreshR (fs : List Fd) (v : Int) (r : Rd) : Prop := FreshN fs v (rU (decFs fs v true r).2).1 ⟨(decFs fs v true r).1, [], (rU (decFs fs v true r).2).2⟩
theorem rU_tagB {c : Nat} {b r : List UInt8} {nn : Bool} (hc : c < 4294967296) : (rU ⟨tagB c b ++ r, false, nn⟩).1 = c := by
  unfold tagB; rw [List.append_assoc, List.append_assoc, rU_uvar hc]
theorem fresh_known {fs : List Fd} {v : Int} {t : Tr} (hg : GoodK v true fs) (ht : Ran t) : ∀ (cs : List Nat), cs.Nodup → (∀ c ∈ cs, c < 4294967296 ∧ tgI fs c < fs.length ∧ (tgO fs v t c).length < 4294967296) → ∀ (l : List Tr) (u : List (Int × List UInt8)) (r : List UInt8) (nn : Bool),
    (∀ c ∈ cs, ∀ f, fs[tgI fs c]? = some f → l[tgI fs c]? = some (dflF f)) → FreshN fs v cs.length ⟨l, u, ⟨cs.flatMap (tgO fs v t) ++ r, false, nn⟩⟩
  | [], _, _, l, u, r, nn, _ => trivial
  | c :: cs, hd, h, l, u, r, nn, hl => by
    obtain ⟨h1, h2, h3⟩ := h c List.mem_cons_self
    obtain ⟨hd1, hd2⟩ := List.nodup_cons.1 hd
    have hf : fs[tgI fs c]? = some fs[tgI fs c] := List.getElem?_eq_getElem h2
    have htag := tgI_tag h2
    have hk := hg.tg _ (List.getElem_mem h2) (by omega)
    have hv0 := hg.v0
    have hh : fs[tgI fs c].has v = true := has_yes (by have := hk.all; omega) (.inl hk.all.2)
    have hO : tgO fs v t c = tagB c (fieldB fs[tgI fs c] v true (t.at (tgI fs c))) := by unfold tgO; rw [hf]
    rw [List.flatMap_cons, List.length_cons, List.append_assoc, hO]
    refine ⟨?_, ?_⟩
    · rw [rU_tagB h1]
      exact hl c List.mem_cons_self
    · rw [kStep_known (y := bkF fs[tgI fs c] v true (t.at (tgI fs c))) hf h1 (by rw [hO, tagB_len] at h3; omega) (fun nn => by
        have := hg.back (List.getElem_mem h2) hh (t.at (tgI fs c)) (ht.at _) nn []
        rwa [List.append_nil] at this)]
      refine fresh_known hg ht cs hd2 (fun d hd => h d (List.mem_cons_of_mem _ hd)) _ u r true fun d hdm f hf2 => ?_
      have hne : tgI fs c ≠ tgI fs d := fun e => by
        obtain ⟨_, g2, _⟩ := h d (List.mem_cons_of_mem _ hdm)
        have g3 := tgI_tag g2
        have g4 : fs[tgI fs c].tag = fs[tgI fs d].tag := by congr 1; congr 1
        have g5 : c = d := by omega
        exact hd1 (g5 ▸ hdm)
      rw [List.getElem?_set_ne hne]
      exact hl d (List.mem_cons_of_mem _ hdm) f hf2
theorem fresh_unk {fs : List Fd} {v : Int} {l : List Tr} : ∀ (us acc : List (Int × List UInt8)) (r : List UInt8) (nn : Bool), (∀ p ∈ us, ((known fs : Nat) : Int) ≤ p.1 ∧ p.1 < 4294967296) →
    FreshN fs v us.length ⟨l, acc, ⟨(us.map fun p => tagB p.1.toNat (whole p.2)).flatten ++ r, false, nn⟩⟩
  | [], acc, r, nn, _ => trivial
  | p :: us, acc, r, nn, hr => by
    obtain ⟨h0, h1⟩ := hr p List.mem_cons_self
    have hw := whole_le' p.2
    rw [List.map_cons, List.flatten_cons, List.length_cons, List.append_assoc]
    refine ⟨fun f hf => ?_, ?_⟩
    · rw [rU_tagB (by omega), tgI_none (by omega)] at hf
      cases hf
    · rw [kStep_unk (by omega) (by omega) (by omega)]
      exact fresh_unk us _ r true (fun q hq => hr q (List.mem_cons_of_mem _ hq))
theorem fresh_bkK {fs : List Fd} {v : Int} (hg : GoodK v true fs) {t : Tr} (ht : Ran t) (h32 : (partB fs v true t).length < 4294967296) (nn : Bool) (r : List UInt8) : FreshR fs v ⟨partB fs v true t ++ r, false, nn⟩ := by
  rw [partB_gen hg.once] at h32 ⊢
  have hfew := hg.few
  have hel := encT_len (tgU fs t) (known fs)
  have hul := unknown_len fs t.u
  obtain ⟨nn1, e1⟩ := bk_fsT ht fs 0 (fun f hf hh t ht nn r => hg.back hf hh t ht nn r) nn (uvar ((encT (tgU fs t) (known fs)).length + (unknown fs t.u).length) ++ ((encT (tgU fs t) (known fs)).flatMap (tgO fs v t) ++ ((unknown fs t.u).map fun p => tagB p.1.toNat (whole p.2)).flatten) ++ r)
  have e2 : rU ⟨uvar ((encT (tgU fs t) (known fs)).length + (unknown fs t.u).length) ++ ((encT (tgU fs t) (known fs)).flatMap (tgO fs v t) ++ ((unknown fs t.u).map fun p => tagB p.1.toNat (whole p.2)).flatten) ++ r, false, nn1⟩ = ((encT (tgU fs t) (known fs)).length + (unknown fs t.u).length, ⟨(encT (tgU fs t) (known fs)).flatMap (tgO fs v t) ++ (((unknown fs t.u).map fun p => tagB p.1.toNat (whole p.2)).flatten ++ r), false, true⟩) := by
    rw [List.append_assoc, List.append_assoc]; exact rU_uvar (by omega) _ _ _
  have hcs : ∀ c ∈ encT (tgU fs t) (known fs), c < 4294967296 ∧ tgI fs c < fs.length ∧ (tgO fs v t c).length < 4294967296 := fun c hc => by
    obtain ⟨h1, h2⟩ := encT_mem hc
    refine ⟨by omega, ?_, ?_⟩
    · rcases Nat.lt_or_ge (tgI fs c) fs.length with h | h
      · exact h
      · unfold tgU at h2; rw [List.getElem?_eq_none (by omega)] at h2; cases h2
    · obtain ⟨i, hi, rfl⟩ := List.getElem_of_mem hc
      have h3 := flatMap_step_le (tgO fs v t) hi
      simp only [List.length_append] at h32
      omega
  obtain ⟨nn2, e3⟩ := kSteps_known hg ht (encT (tgU fs t) (known fs)) hcs (bkFsT v true t fs 0) [] (((unknown fs t.u).map fun p => tagB p.1.toNat (whole p.2)).flatten ++ r) true
  unfold FreshR
  rw [List.append_assoc, e1]
  simp only []
  rw [e2]
  simp only []
  refine FreshN.add (fresh_known hg ht _ ((List.nodup_range).filter _) hcs _ _ _ _ fun c hc f hf => ?_) ?_
  · obtain ⟨_, h2, _⟩ := hcs c hc
    rw [bkFsT_get fs 0 _ h2]
    rw [List.getElem?_eq_getElem h2] at hf
    have h3 := tgI_tag h2
    rw [decide_eq_false (show ¬ fs[tgI fs c].tag < 0 by omega), Bool.false_and, if_neg (by decide)]
    rw [Option.some.inj hf]
  · rw [e3]
    exact fresh_unk _ _ _ _ fun p hp => ⟨unknown_least fs t.u p hp, (ht.u p (mem_unknown hp)).2⟩
theorem Row.none0 {e size : Nat} {a : Option Addr} {m cap : Nat} {xs : List Value} {N : Chunk} (h : Row e size a m cap xs N) (ha : a.isNone = true) : a = none ∧ cap = 0 := by
  rcases h.2 with ⟨h1, _, h2, _⟩ | ⟨g, cur, h1, _⟩
  · exact ⟨h1, h2⟩
  · rw [h1] at ha; cases ha
/-! ### Both kinds of versions -/
def bkM (fs : List Fd) (v : Int) (flex : Bool) (t : Tr) : Tr := if flex then bkPK fs v t else .mk 0 [] false (bkFsT v false t fs 0) []
theorem bkFsT_at {v : Int} {flex : Bool} {t : Tr} {fs : List Fd} {u : List (Int × List UInt8)} {j : Nat} (hj : j < fs.length) : (Tr.mk 0 [] false (bkFsT v flex t fs 0) u).at j = if decide (fs[j].tag < 0) && fs[j].has v then bkF fs[j] v flex (t.at j) else dflF fs[j] := by
  have h2 := bkFsT_get (v := v) (flex := flex) (t := t) fs 0 j hj
  rw [Nat.zero_add] at h2
  exact at_get h2
theorem bkM_read {fs : List Fd} {v : Int} {flex : Bool} (hg : GoodK v flex fs) {t : Tr} (ht : Ran t) (h32 : (partB fs v flex t).length < 4294967296) (nn : Bool) (r : List UInt8) : ∃ nn', decM fs v flex ⟨partB fs v flex t ++ r, false, nn⟩ = (bkM fs v flex t, ⟨r, false, nn'⟩) := by
  cases flex with
  | true => exact read_bkK hg ht h32 nn r
  | false =>
    obtain ⟨nn1, e1⟩ := bk_fsT ht fs 0 (fun f hf hh t ht nn r => hg.back hf hh t ht nn r) nn r
    refine ⟨nn1, ?_⟩
    show decP fs v false _ = _
    rw [partB_false, plainTo_all, decP_eq, e1]
    rfl
theorem bkM_ok {fs : List Fd} {v : Int} {flex : Bool} (hg : GoodK v flex fs) (t : Tr) : OkP fs v (bkM fs v flex t) := by
  cases flex with
  | true => exact ok_bkK hg t
  | false =>
    refine ⟨(show OkU fs [] from ⟨by simp [unknown, unknownFrom], by simp, fun p hp => by cases hp⟩), OkFs_iff.2 fun j hj hh => ?_⟩
    rw [Nat.zero_add]
    show OkFE fs[j] v ((Tr.mk 0 [] false (bkFsT v false t fs 0) []).at j)
    rw [bkFsT_at hj]
    have hm := List.getElem_mem hj
    split
    · exact ok_bk1 (hg.fd hm).2 _
    · rename_i h2
      have h0 : 0 ≤ fs[j].tag := by
        rw [hh] at h2
        simp at h2; omega
      exact ok_dflT (hg.tg _ hm h0)
theorem bkM_part {fs : List Fd} {v : Int} {flex : Bool} (hg : GoodK v flex fs) (t : Tr) : partB fs v flex (bkM fs v flex t) = partB fs v flex t := by
  cases flex with
  | true => exact partB_bkK hg t
  | false =>
    rw [partB_false, partB_false, plainTo_all, plainTo_all]
    refine plainR_congrT fs 0 fun j hj ht hh => ?_
    rw [Nat.zero_add]
    show fieldB fs[j] v false ((Tr.mk 0 [] false (bkFsT v false t fs 0) []).at j) = _
    rw [bkFsT_at hj, if_pos (by simp [ht, hh])]
    obtain ⟨h1, h2⟩ := hg.fd (List.getElem_mem hj)
    have h3 := fieldB_bk1 h1 (by rw [show (untag fs[j]).sub = fs[j].sub by cases fs[j]; rfl]; exact h2) (t.at j)
    rwa [untag_B, untag_B, untag_bk] at h3
theorem bkM_fresh {fs : List Fd} {v : Int} {flex : Bool} (hg : GoodK v flex fs) {t : Tr} (ht : Ran t) (h32 : (partB fs v flex t).length < 4294967296) (nn : Bool) : flex = true → FreshR fs v ⟨partB fs v flex t, false, nn⟩ := fun h => by
  subst h
  have := fresh_bkK hg ht h32 nn []
  rwa [List.append_nil] at this
theorem bkF_i64 {f : Fd} {v : Int} {flex : Bool} {x : Tr} (k : f.kind = 4) : (bkF f v flex x).n = x.n := by
  rw [bkF_eq]; unfold bkF'
  rw [if_neg (by omega), k, bVn (by decide) (by decide) (by decide) (by decide)]
  rfl
theorem dflF_i64 {f : Fd} (k : f.kind = 4) : (dflF f).n = f.df := by
  rw [dflF_eq]; unfold dflF'
  rw [if_neg (by omega), if_neg (by omega), if_neg (by omega), if_neg (by omega)]
  rfl
theorem bkM_i64 {fs : List Fd} {v : Int} {flex : Bool} {t : Tr} {j : Nat} (hg : GoodK v flex fs) (hR : Ran t) (hj : j < fs.length) (k : fs[j].kind = 4) (h0 : 0 ≤ fs[j].tag) : -9223372036854775808 ≤ ((bkM fs v flex t).at j).n ∧ ((bkM fs v flex t).at j).n ≤ 9223372036854775807 := by
  have hd := (hg.tg _ (List.getElem_mem hj) h0).i k
  have hx := (hR.at j).n
  cases flex with
  | true =>
    show _ ≤ ((bkPK fs v t).at j).n ∧ ((bkPK fs v t).at j).n ≤ _
    rw [bkPK_at hg.once hj]
    split
    · rw [bkF_i64 k]; exact hx
    · split
      · rw [bkF_i64 k]; exact hx
      · rw [dflF_i64 k]; exact hd
  | false =>
    show _ ≤ ((Tr.mk 0 [] false (bkFsT v false t fs 0) []).at j).n ∧ ((Tr.mk 0 [] false (bkFsT v false t fs 0) []).at j).n ≤ _
    rw [bkFsT_at hj]
    split
    · rw [bkF_i64 k]; exact hx
    · rw [dflF_i64 k]; exact hd
end Go.Sx

import Derived.Test.YtpcgaheplmiglaaGreatLibH
import Derived.Laws.IdiomStrings
import Derived.Laws.Small
set_option linter.unusedVariables false
set_option linter.unusedSimpArgs false
/- Telling: regions where two operations may come up, octets out of a text, structs that are built where the order is open. -/
namespace Go.Sx
/-- Not too much of anything. -/
inductive Fits : Tr → Prop
  | mk (t : Tr) (hs : t.s.length ≤ 1000000000000) (hl : t.l.length ≤ 1000000000000) (hu : t.u.length ≤ 1000000000000) (hv : ∀ p ∈ t.u, p.2.length ≤ 1000000000000) (hr : ∀ x ∈ t.l, Fits x) : Fits t
theorem Fits.s {t : Tr} (h : Fits t) : t.s.length ≤ 1000000000000 := by cases h; assumption
theorem Fits.l {t : Tr} (h : Fits t) : t.l.length ≤ 1000000000000 := by cases h; assumption
theorem Fits.u {t : Tr} (h : Fits t) : t.u.length ≤ 1000000000000 := by cases h; assumption
theorem Fits.v {t : Tr} (h : Fits t) : ∀ p ∈ t.u, p.2.length ≤ 1000000000000 := by cases h; assumption
theorem Fits.el {t x : Tr} (h : Fits t) (hx : x ∈ t.l) : Fits x := by cases h with | mk _ _ _ _ _ hr => exact hr x hx
theorem Fits.none : Fits .none := .mk _ (by simp [Tr.s, Tr.none]) (by simp [Tr.l, Tr.none]) (by simp [Tr.u, Tr.none]) (fun p hp => by simp [Tr.u, Tr.none] at hp) (fun x hx => by simp [Tr.l, Tr.none] at hx)
theorem Fits.at {t : Tr} (h : Fits t) (i : Nat) : Fits (t.at i) := by
  unfold Tr.at
  cases hq : t.l[i]? with
  | none => exact Fits.none
  | some x => exact h.el (List.mem_of_getElem? hq)
theorem Fits.lTl {t : Tr} (h : Fits t) : (Go.Sx.lT t).length ≤ 1000000000000 := by
  unfold Go.Sx.lT
  split
  · simp
  · exact h.l
theorem Fits.lTel {t x : Tr} (h : Fits t) (hx : x ∈ Go.Sx.lT t) : Fits x := h.el (lT_mem hx)
theorem Fits.sTl {t : Tr} (h : Fits t) : (Go.Sx.sT t).length ≤ 1000000000000 := by
  unfold Go.Sx.sT
  split
  · simp
  · exact h.s
/-! ### What comes up -/
section
variable {P : Program} {ops : Array Oper} {Q : Exit → Act → World → Prop} {n k : Nat} {l : Env} {H H0 : Fz} {L Lq : Own} {fuel : Nat} {listed : Array Bool}
theorem one_up {o : Oper} (i : Nat) (ho : ops[i]? = some o) {a : Act} {w : World} (hA : Has n l a) (hw : Hp H L w)
    (h : WL P ops (Exit.then (fun a w => ((listed.setIfInBounds i true).getD k false = false → Bs H0 Lq w) ∧ wpAnyG P .any ops Q k (Bs H0 Lq) fuel (listed.setIfInBounds i true) a w) Q) [o] n l H L) :
    wpOp P ops Q i (fun a' w' => ((listed.setIfInBounds i true).getD k false = false → Bs H0 Lq w') ∧ wpAnyG P .any ops Q k (Bs H0 Lq) fuel (listed.setIfInBounds i true) a' w') a w := by
  have := h a w hA hw
  unfold wpOp
  rw [ho]
  simp only [wpList] at this ⊢
  split at this
  · rename_i hwt
    rw [if_pos hwt]
    refine this.imp (fun h1 => ?_) (fun h1 => h1)
    unfold Oper.wp at h1 ⊢
    generalize (execOp a.eval o).run P w = r at *
    cases r with
    | ok x w' =>
      cases x <;> simp only [Oper.upon] at h1 ⊢ <;> first
        | exact h1
        | exact Calls.mono h1 (fun e w'' he => by cases e <;> exact he)
    | halt x w' => cases x <;> simp only [Oper.upon] at h1 ⊢ <;> exact h1
  · rename_i hwt
    rw [if_neg hwt]
    exact this
/-- Either of two may come up. -/
theorem dE2 {o o' : Oper} (i j : Nat) (hr : Region.ready .any ops listed = [i, j]) (ho : ops[i]? = some o) (ho' : ops[j]? = some o')
    (h : WL P ops (Exit.then (fun a w => ((listed.setIfInBounds i true).getD k false = false → Bs H0 Lq w) ∧ wpAnyG P .any ops Q k (Bs H0 Lq) fuel (listed.setIfInBounds i true) a w) Q) [o] n l H L)
    (h' : WL P ops (Exit.then (fun a w => ((listed.setIfInBounds j true).getD k false = false → Bs H0 Lq w) ∧ wpAnyG P .any ops Q k (Bs H0 Lq) fuel (listed.setIfInBounds j true) a w) Q) [o'] n l H L) : WH P ops Q k H0 Lq (fuel + 1) listed n l H L := by
  intro a w hA hw
  refine ⟨fun h0 => (by rw [hr] at h0; cases h0), fun x hx => ?_⟩
  rw [hr] at hx
  rcases List.mem_cons.1 hx with rfl | hx
  · exact one_up _ ho hA hw h
  · obtain rfl := List.mem_singleton.1 hx
    exact one_up _ ho' hA hw h'
theorem frH {e size : Nat} {a : Option Addr} {m cap : Nat} {xs : List Value} {N : Chunk} {L' : Own} (hr : Row e size a m cap xs N) (hs : Sel L N L')
    (h : ∀ H', H.le H' → (a = none ∧ m = 0 ∧ cap = 0 ∨ ∃ g, a = some ⟨g, 0, none⟩ ∧ H'.at g 0 xs) → WH P ops Q k H0 Lq fuel listed n l H' L') : WH P ops Q k H0 Lq fuel listed n l H L := by
  intro a' w hA hw
  obtain ⟨H', h1, h2, h3⟩ := hr.freeze hs hw
  exact h H' h1 h3 a' w hA h2
theorem drH {ch : Chunk} {L' : Own} (hs : Sel L ch L') (h : WH P ops Q k H0 Lq fuel listed n l H L') : WH P ops Q k H0 Lq fuel listed n l H L := fun a w hA hw => h a w hA (hw.sel hs).drop
variable {o : Oper} {d ty : Nat} {pos : String} {af : Array Edge} {S : World → Prop}
theorem y_bd {T : Nat} {ps : List (Nat × Operand)} {vs : List (Nat × Value)} {pl : List (Nat × Nat)} {zs ds : List Value} (hS : Stru P T pl zs) (hp : parts l ps = some vs) (hf : fillL pl zs vs = some ds) : ∀ a, Has n l a → YieldsIf P ops S ⟨some d, .build T ps.toArray, ty, pos, af, none⟩ (.agg ds.toArray) a := y_plain rfl fun a hA w _ => by
  have h1 := parts_eq hA ps vs hp
  have h2 := hS.build hf
  simp only [execOp, List.map_toArray]
  rw [show ps.map (fun x => match x with | (i, x) => (i, a.eval x)) = vs from h1]
  simp [h2]
theorem y_esn {T T' e m c : Nat} {x : Operand} {ad : Option Addr} (hu : P.underlying T = some (.slice e)) (hx : get l x = some (.slice ad m c)) : ∀ a, Has n l a → YieldsIf P ops S ⟨some d, .binOp .eql T x (.const (.slice none 0 0)) T', ty, pos, af, none⟩ (.bool ad.isNone) a := y_plain rfl fun a hA w _ => by
  have h1 := run_equal_slice_nil (P := P) w T e ad m c hu
  have h2 : Act.eval a (.const (.slice none 0 0)) = .slice none 0 0 := rfl
  simp [execOp, hA.get hx, h2, eqGuard, binOp, h1]
/-- a slice of a whole array, wherever it lies -/
theorem y_slA {T e b off m : Nat} {x : Operand} (ha : ∀ w, (underlying T).run P w = .ok (.array m e) w) (hz : ∀ w, (sizeOf e).run P w = .ok 1 w) (hx : get l x = some (.pointer (some ⟨b, off, none⟩))) : ∀ a, Has n l a → YieldsIf P ops S ⟨some d, .slice T x none none none, ty, pos, af, none⟩ (.slice (some ⟨b, off, none⟩) m m) a := y_plain rfl fun a hA w _ => by
  have he : (if m = 0 then (⟨b, off, none⟩ : Addr) else (⟨b, off, none⟩ : Addr).add 0) = ⟨b, off, none⟩ := by split <;> simp [Addr.add]
  simp [execOp, hA.get hx, Instr.sliceAt, Instr.sureAddr, ha, hz, Instr.sliceBounds, he]
theorem y_ixk {T e sz b off m c : Nat} {ad : Option Addr} {x y : Operand} {j : Nat} {i : Int} {q : IntKind} (ht : ∀ w, (underlying T).run P w = .ok (.slice e) w) (hz : ∀ w, (sizeOf e).run P w = .ok sz w) (hx : get l x = some (.slice ad m c)) (had : ad = some ⟨b, off, none⟩) (hy : get l y = some (.int q i)) (hi : i = (j : Int)) (hj : j < m) : ∀ a, Has n l a → YieldsIf P ops S ⟨some d, .indexAddr T x y, ty, pos, af, none⟩ (.pointer (some ⟨b, off + j * sz, none⟩)) a := y_plain rfl fun a hA w _ => by
  subst had hi
  simp [execOp, hA.get hx, hA.get hy, Instr.indexAt, asIntOf, ht, hz, hj, add_plain]
end
section
variable {P : Program} {ops : Array Oper} {Q : Exit → Act → World → Prop} {rest : List Oper} {n : Nat} {l : Env} {H : Fz} {L : Own}
variable {d ty : Nat} {pos : String} {af : Array Edge}
/-- '[]byte(s)': octets that lie frozen from here on -/
theorem csb {S D e : Nat} {x : Operand} {s : List UInt8} (hs : P.underlying S = some .string) (hd : P.underlying D = some (.slice e)) (he : P.underlying e = some (.int .u8)) (hx : get l x = some (.string ⟨s.toArray⟩)) (hb : s.length ≤ B47) (hn : Nat.blt d n = true)
    (h : ∀ H' b cap, H.le H' → BytesAt H' (some ⟨b, 0, none⟩) cap s → WL P ops Q rest n ((d, .slice (some ⟨b, 0, none⟩) s.length cap) :: l) H' L) : WL P ops Q (⟨some d, .convert S D x, ty, pos, af, none⟩ :: rest) n l H L :=
  WL.vw rfl rfl hn (fun a w hA hw => by
    have hr := run_bytes_of_string (P := P) w S D e ⟨s.toArray⟩ hs hd he
    have e2 : (⟨s.toArray⟩ : ByteArray).size = s.length := by simp [ByteArray.size]
    rw [e2] at hr
    have hge := grownCap_ge w s.length 0 e
    generalize hC : Obj.cells (bytesRow ⟨s.toArray⟩ (grownCap w s.length 0 e)) e ((bytesRow ⟨s.toArray⟩ (grownCap w s.length 0 e)).size, (bytesRow ⟨s.toArray⟩ (grownCap w s.length 0 e)).size + 1) = C at hr
    have h1 : Hp H ([(w.heap.size, C)] :: L) (w.drew.alloc C) := hw.drew.alloc C
    obtain ⟨h2, h3⟩ := h1.freeze
    refine ⟨_, _, H.add w.heap.size C, L, by simp [execOp, hA.get hx, hr], h2.drop, h _ w.heap.size (grownCap w s.length 0 e) h3 ⟨fun _ => ⟨w.heap.size, 0, rfl, ?_⟩, hge, hb⟩⟩
    rw [← hC]
    refine ⟨_, _, _, Fz.add_blk _ _ _, fun j v hj => ?_⟩
    simp only [bytesOf, List.getElem?_map] at hj
    rw [Nat.zero_add]
    unfold bytesRow
    cases hq : s[j]? with
    | none => rw [hq] at hj; cases hj
    | some y =>
      rw [hq] at hj
      have hlt := (List.getElem?_eq_some_iff.1 hq).1
      rw [Array.getElem?_append_left (by simpa using hlt)]
      simp [hq]; simpa using hj)
/-- 'append([]T(nil), y...)' -/
theorem apn {t tx e size bytes : Nat} {z : Value} {x y : Operand} {k : Nat} {news : List Value} {src : Value}
    (ht : P.underlying t = some (.slice e)) (hi : TI P e size bytes z) (hx : get l x = some (.slice none 0 0)) (hy : get l y = some src) (hsrc : ∀ w, Hp H ([] :: L) w → Src P size tx src k news w)
    (hb : k * bytes ≤ 140737488355328) (h63 : k ≤ maxLen) (hn : Nat.blt d n = true)
    (h : ∀ a' cap' N', Row e size a' k cap' news N' → WL P ops Q rest n ((d, .slice a' k cap') :: l) H (N' :: L)) :
    WL P ops Q (⟨some d, .call { callee := .builtin .append, args := #[x, y], argTypes := #[t, tx] }, ty, pos, af, none⟩ :: rest) n l H L := by
  refine nilL (ap (k := k) (news := news) (F := fun N => N :: L) ht hi hx hy (Row.nil _ _) (fun _ => .head) hsrc (by rw [Nat.zero_add]; exact hb) (by rw [Nat.zero_add]; exact h63) hn (fun a' cap' N' hr _ => ?_))
  have := h a' cap' N' (by have h1 := hr; rw [Nat.zero_add, List.nil_append] at h1; exact h1)
  rw [Nat.zero_add]; exact this
/-- a new slice of so many things, its block written out -/
theorem mkC {T e size bytes m : Nat} {z : Value} {zs cs : List Value} {x y : Operand} {kl kc : IntKind} {u v : Int} (ht : P.underlying T = some (.slice e)) (hi : TI P e size bytes z) (hz : z.cells = zs.toArray) (hx : get l x = some (.int kl u)) (hy : get l y = some (.int kc v)) (hu : u = (m : Int)) (hv : v = (m : Int)) (hcs : reps zs m = cs) (hb : bytes * m ≤ 281474976710656) (h63 : m ≤ maxLen) (hn : Nat.blt d n = true)
    (h : ∀ b, WL P ops Q rest n ((d, .slice (some ⟨b, 0, none⟩) m m) :: l) H ([(b, .cells cs.toArray e (0, 0))] :: L)) : WL P ops Q (⟨some d, .makeSlice T x y, ty, pos, af, none⟩ :: rest) n l H L :=
  WL.vw rfl rfl hn (fun a w hA hw => by
    subst hu hv hcs
    obtain ⟨i, hii, hsz, hby, hzz⟩ := hi.ex
    have hl : zs.length = size := by have := hi.zc; rw [hz] at this; simpa using this
    have h63' : (m : Int) ≤ 9223372036854775807 := by
      have h := h63
      simp only [maxLen] at h; omega
    have hb' : (i.bytes : Int) * (m : Int) ≤ 281474976710656 := by
      have h : ((bytes * m : Nat) : Int) ≤ 281474976710656 := by omega
      rw [hby]; rwa [Int.natCast_mul] at h
    have hr := run_make (P := P) w T e i z ht hii hzz kl kc (m : Int) (m : Int) (by omega) (by omega) hb' h63'
    simp only [Int.toNat_natCast] at hr
    rw [hsz, ← hl, madeCells_eq hz (by rw [hl]; exact hi.pos)] at hr
    exact ⟨_, _, H, [(w.heap.size, .cells (reps zs m).toArray e (0, 0))] :: L, by simp [execOp, hA.get hx, hA.get hy, hr], hw.alloc _, h w.heap.size⟩)
end
/-- The keys that a map's tags have rise. -/
theorem KvAt.rise {H : Fz} {m : Option Nat} {us : List (Int × List UInt8)} (h : KvAt H m us) : (us.map (·.1)).Pairwise (· ≤ ·) := by
  obtain ⟨kvs, _, h2, h3⟩ := h
  have e : us.map (·.1) = srt (keysOf kvs) := by
    apply List.ext_getElem?
    intro i
    have hs : sortKv kvs = (srt (keysOf kvs)).map fun k => (k, (lookKv kvs k).getD undef) := rfl
    by_cases hi : i < us.length
    · have hi' : i < (srt (keysOf kvs)).length := by rw [srt_length]; simp [keysOf]; omega
      have hg : (sortKv kvs)[i]? = some ((srt (keysOf kvs))[i], (lookKv kvs (srt (keysOf kvs))[i]).getD undef) := by rw [hs]; simp [hi']
      obtain ⟨s, h4, _⟩ := h3 i _ _ hg
      simp [h4, hi']
    · have hi' : ¬ i < (srt (keysOf kvs)).length := by rw [srt_length]; simp [keysOf]; omega
      rw [List.getElem?_eq_none (by simpa using hi), List.getElem?_eq_none (by omega)]
  rw [e]
  have := List.pairwise_mergeSort (le := fun x y : Int => decide (x ≤ y)) (fun a b c h1 h2 => by simp at h1 h2 ⊢; omega) (fun a b => by simp; omega) (keysOf kvs)
  exact this.imp (fun h => by simpa using h)
section
variable {P : Program} {ops : Array Oper} {Q : Exit → Act → World → Prop} {n : Nat} {l : Env} {d ty : Nat} {pos : String} {af : Array Edge} {S : World → Prop}
theorem y_sb {x y : Operand} {T T' : Nat} {k : IntKind} {a b c : Int} (hx : get l x = some (.int k a)) (hy : get l y = some (.int k b)) (hc : k.wrap (a - b) = c) : ∀ w, Has n l w → YieldsIf P ops S ⟨some d, .binOp .sub T x y T', ty, pos, af, none⟩ (.int k c) w := y_plain rfl fun a hA w _ => by simp [execOp, hA.get hx, hA.get hy, eqGuard, binOp, Op.intArith, hc]
theorem y_gt {x y : Operand} {T T' : Nat} {k : IntKind} {u v : Int} (hx : get l x = some (.int k u)) (hy : get l y = some (.int k v)) : ∀ a, Has n l a → YieldsIf P ops S ⟨some d, .binOp .gtr T x y T', ty, pos, af, none⟩ (.bool (decide (v < u))) a := y_plain rfl fun a hA w _ => by simp [execOp, hA.get hx, hA.get hy, eqGuard, binOp, Op.intCmp]
end
theorem row_put {A B ds : List Value} {m k : Nat} (hA : A.length = m * k) (hB : B.length = k) : (A ++ B).take (0 + m * k) ++ ds ++ (A ++ B).drop (0 + m * k + k) = A ++ ds := by
  rw [Nat.zero_add, ← hA, List.take_left, List.drop_of_length_le (by rw [List.length_append]; omega), List.append_nil]
theorem rise_get {us : List (Int × List UInt8)} (h : (us.map (·.1)).Pairwise (· ≤ ·)) {i j : Nat} (hij : i < j) (hj : j < us.length) : us[i].1 ≤ us[j].1 := by
  have := List.pairwise_iff_getElem.1 h i j (by simp; omega) (by simpa using hj) hij
  simpa using this
theorem tags_snoc {us : List (Int × List UInt8)} {i : Nat} {es : List (GC × (Int × List UInt8))} {g : GC} {p : Int × List UInt8} (h : es.map (·.2) = us.take i) (hp : us[i]? = some p) : (es ++ [(g, p)]).map (·.2) = us.take (i + 1) := by
  rw [List.take_add_one, hp, List.map_append, h]; rfl
def gcf (p : GC × (Int × List UInt8)) : List Value := p.1.cells p.2
theorem gcf_one (p : GC × (Int × List UInt8)) : ∀ u ∈ gcf p, u.oneCell' = true := by
  intro u hu
  simp only [gcf, GC.cells, List.mem_cons, List.not_mem_nil, or_false] at hu
  rcases hu with rfl | rfl <;> rfl
/-- What the tags told so far are in memory: the tree's own block, a row. -/
def TgI (T61 : Nat) (tb T26 : Nat) (c0 c1 c2 c3 : Value) (us : List (Int × List UInt8)) (i : Nat) (H : Fz) (X : Chunk) : Prop :=
  ∃ (a : Option Addr) (cap : Nat) (N : Chunk) (es : List (GC × (Int × List UInt8))), X = [(tb, .cells [c0, c1, c2, c3, .slice a i cap].toArray T26 (0, 0))] ++ N ∧ Row T61 2 a i cap (es.flatMap gcf) N ∧ es.map (·.2) = us.take i ∧ ∀ p ∈ es, TagAt H p.1 p.2
theorem TgI.mono {T61 tb T26 : Nat} {c0 c1 c2 c3 : Value} {us : List (Int × List UInt8)} {i : Nat} {H H' : Fz} {X : Chunk} (hle : H.le H') (h : TgI T61 tb T26 c0 c1 c2 c3 us i H X) : TgI T61 tb T26 c0 c1 c2 c3 us i H' X :=
  let ⟨a, cap, N, es, h1, h2, h3, h4⟩ := h; ⟨a, cap, N, es, h1, h2, h3, fun p hp => (h4 p hp).mono hle⟩
theorem TgI.start {T61 tb T26 : Nat} {c0 c1 c2 c3 : Value} {us : List (Int × List UInt8)} {H : Fz} : TgI T61 tb T26 c0 c1 c2 c3 us 0 H ([(tb, .cells [c0, c1, c2, c3, .slice none 0 0].toArray T26 (0, 0))]) :=
  ⟨none, 0, [], [], by simp, Row.nil _ _, by simp, fun p hp => by cases hp⟩
theorem TagsAt.told {H : Fz} {e : Nat} {a : Option Addr} {m cap : Nat} {N : Chunk} {es : List (GC × (Int × List UInt8))} {us : List (Int × List UInt8)} (h : a = none ∧ m = 0 ∧ cap = 0 ∨ ∃ g, a = some ⟨g, 0, none⟩ ∧ H.at g 0 (es.flatMap gcf)) (hr : Row e 2 a m cap (es.flatMap gcf) N) (hu : es.map (·.2) = us) (hb : us.length ≤ 1000000000000) (he : ∀ p ∈ es, TagAt H p.1 p.2) : TagsAt H a cap us ∧ m = us.length := by
  have hl := hr.1
  rw [flatMap_len gcf 2 (fun _ => rfl)] at hl
  have h1 : us.length = es.length := by rw [← hu]; simp
  have hm : m = es.length := by omega
  refine ⟨?_, by omega⟩
  rw [← hu]
  exact TagsAt.row h hm hr.le.1 (by unfold B47; omega) he
theorem Fn.flat' {P : Program} {f : FuncId} {args : List Value} {H : Fz} {L L1 : Own} {R R1 : Value → Fz → Own → Prop} (h : Fn P f args H L1 R1) (hL : L1.flatten = L.flatten) (hR : ∀ v H' L', H.le H' → R1 v H' L' → ∃ L'', L''.flatten = L'.flatten ∧ R v H' L'') : Fn P f args H L R := by
  refine ⟨h.1, fun w hw => (h.2 w (hw.perm (by rw [hL]))).mono ?_⟩
  rintro e w' ⟨v, H', L', rfl, hle, hp, hr⟩
  obtain ⟨L'', h1, h2⟩ := hR v H' L' hle hr
  exact ⟨v, H', L'', rfl, hle, hp.perm (by rw [h1]), h2⟩
theorem sortKv_lt {kvs : List KV} {i : Nat} {p : KV} (h : (sortKv kvs)[i]? = some p) : i < kvs.length := by
  have := (List.getElem?_eq_some_iff.1 h).1
  rwa [sortKv_length] at this
/-- What a closure that tells one tag more does. -/
def TellsTag (P : Program) (lf T61 T26 : Nat) : Prop := ∀ {H : Fz} {L : Own} {tb : Nat} {c0 c1 c2 c3 : Value} {a va : Option Addr} {m cap vc : Nat} {xs : List Value} {k : Int} {x : List UInt8} {N : Chunk}, Row T61 2 a m cap xs N → m ≤ 1000000000000 → BytesAt H va vc x → x.length ≤ 1000000000000 → 0 ≤ k → k < 4294967296 →
  Fn P lf [.int .u32 k, .slice va x.length vc, .pointer (some ⟨tb, 0, none⟩)] H ([(tb, .cells [c0, c1, c2, c3, .slice a m cap].toArray T26 (0, 0))] :: N :: L) (fun _ H' L' => ∃ a' cap' N' g, L' = [(tb, .cells [c0, c1, c2, c3, .slice a' (m + 1) cap'].toArray T26 (0, 0))] :: N' :: L ∧ Row T61 2 a' (m + 1) cap' (xs ++ gcf (g, (k, x))) N' ∧ TagAt H' g (k, x))
theorem TgI.step {P : Program} {lf T61 T26 tb : Nat} (hc : TellsTag P lf T61 T26) {c0 c1 c2 c3 : Value} {us : List (Int × List UInt8)} (hv : ∀ p ∈ us, p.2.length ≤ 1000000000000) {i : Nat} (hi : i ≤ 1000000000000) {H1 : Fz} {X : Chunk} {L1 : Own} {k : Int} {s : List UInt8} {va : Option Addr} {vc : Nat} (h1 : us[i]? = some (k, s)) (hx : BytesAt H1 va vc s) (h2 : 0 ≤ k) (h3 : k < 4294967296) (h : TgI T61 tb T26 c0 c1 c2 c3 us i H1 X) :
    Fn P lf [.int .u32 k, .slice va s.length vc, .pointer (some ⟨tb, 0, none⟩)] H1 (X :: L1) (fun _ H' L' => ∃ X', L' = X' :: L1 ∧ TgI T61 tb T26 c0 c1 c2 c3 us (i + 1) H' X') := by
  obtain ⟨a, cap, N, es, rfl, hr, hes, hel⟩ := h
  refine Fn.flat' (hc (L := L1) (tb := tb) (c0 := c0) (c1 := c1) (c2 := c2) (c3 := c3) hr hi hx (hv _ (List.mem_of_getElem? h1)) h2 h3) (by simp) ?_
  rintro v' H' L' hle ⟨a', cap', N', g, rfl, hr', hT⟩
  refine ⟨([(tb, .cells [c0, c1, c2, c3, .slice a' (i + 1) cap'].toArray T26 (0, 0))] ++ N') :: L1, by simp, _, rfl, a', cap', N', es ++ [(g, (k, s))], rfl, ?_, tags_snoc hes h1, fun p hp => ?_⟩
  · rw [flatMap_snoc'] at hr'; exact hr'
  · rcases mem_snoc hp with hp | rfl
    · exact (hel p hp).mono hle
    · exact hT
theorem i8_rng (x : Int) : -128 ≤ IntKind.i8.wrap x ∧ IntKind.i8.wrap x ≤ 127 := by
  unfold IntKind.wrap
  have hb : (2 : Int) ^ IntKind.i8.bits = 256 := rfl
  have hb' : (2 : Int) ^ (IntKind.i8.bits - 1) = 128 := rfl
  simp only [hb, hb', show IntKind.i8.signed = true from rfl, Bool.true_and, decide_eq_true_eq]
  split <;> omega
theorem i8_64 (x : Int) : IntKind.i64.wrap (IntKind.i8.wrap x) = IntKind.i8.wrap x := by have := i8_rng x; exact w64 (by omega) (by omega)
theorem i16_64 (x : Int) : IntKind.i64.wrap (IntKind.i16.wrap x) = IntKind.i16.wrap x := by have := i16_rng x; exact w64 (by omega) (by omega)
theorem i32_64 (x : Int) : IntKind.i64.wrap (IntKind.i32.wrap x) = IntKind.i32.wrap x := by have := i32_rng x; exact w64 (by omega) (by omega)
theorem u16_64 (x : Int) : IntKind.i64.wrap (IntKind.u16.wrap x) = IntKind.u16.wrap x := by
  have h : IntKind.u16.wrap x = x % 65536 := by simp [IntKind.wrap, IntKind.bits, IntKind.signed]
  rw [h]; exact w64 (by omega) (by omega)
end Go.Sx
/- What is read of few octets is not too much of anything. -/
namespace Go.Sx
theorem rU_eats {r : Rd} (h : (rU r).2.bad = false) : (rU r).2.s.length + 1 ≤ r.s.length := by
  unfold rU at h ⊢
  split at h
  · simp [Rd.out] at h
  · rename_i x n hu
    have : 1 ≤ n ∧ n ≤ r.s.length := by
      revert hu
      generalize r.s = s
      intro hu
      match s with
      | [] => simp [uvR] at hu
      | b0 :: r0 =>
        simp only [uvR] at hu
        split at hu
        · cases hu; simp
        · match r0 with
          | [] => simp at hu
          | b1 :: r1 =>
            simp only at hu
            split at hu
            · cases hu; simp
            · match r1 with
              | [] => simp at hu
              | b2 :: r2 =>
                simp only at hu
                split at hu
                · cases hu; simp
                · match r2 with
                  | [] => simp at hu
                  | b3 :: r3 =>
                    simp only at hu
                    split at hu
                    · cases hu; simp
                    · match r3 with
                      | [] => simp at hu
                      | b4 :: _ =>
                        simp only at hu
                        split at hu
                        · cases hu; simp
                        · cases hu
    simp only [List.length_drop]; omega
theorem good_of_not {a b : Bool} (h : a = true → b = true) (hb : b = false) : a = false := by
  cases a with
  | false => rfl
  | true => rw [h rfl] at hb; cases hb
theorem rSpan_le (l : Int) (r : Rd) : (rSpan l r).1.1.length ≤ r.s.length := by
  unfold rSpan; split
  · simp
  · simp only [List.length_take]; omega
theorem setTag_len (k : Int) (s : List UInt8) : ∀ us, (setTag k s us).length ≤ us.length + 1
  | [] => by simp [setTag]
  | (k', s') :: r => by
    simp only [setTag]
    split
    · have := setTag_len k s r; simp only [List.length_cons]; omega
    · split <;> simp
theorem setTag_mem {k : Int} {s : List UInt8} {p : Int × List UInt8} : ∀ {us}, p ∈ setTag k s us → p = (k, s) ∨ p ∈ us
  | [], h => by simp [setTag] at h; exact .inl h
  | (k', s') :: r, h => by
    simp only [setTag] at h
    split at h
    · rcases List.mem_cons.1 h with h | h
      · exact .inr (List.mem_cons.2 (.inl h))
      · rcases setTag_mem h with h | h
        · exact .inl h
        · exact .inr (List.mem_cons_of_mem _ h)
    · split at h
      · rcases List.mem_cons.1 h with h | h
        · exact .inl h
        · exact .inr (List.mem_cons_of_mem _ h)
      · rcases List.mem_cons.1 h with h | h
        · exact .inl h
        · exact .inr h
theorem tags_fit : ∀ (n : Nat) (acc : List (Int × List UInt8)) (r : Rd) (K : Nat), r.s.length ≤ K → (∀ p ∈ acc, p.2.length ≤ K) → (rTagsN n acc r).2.bad = false → (rTagsN n acc r).1.length ≤ acc.length + r.s.length ∧ ∀ p ∈ (rTagsN n acc r).1, p.2.length ≤ K
  | 0, acc, r, K, _, ha, _ => ⟨by simp [rTagsN], ha⟩
  | n + 1, acc, r, K, hr, ha, hb => by
    rw [rTagsN] at hb ⊢
    have h3 := good_of_not (fun h => rTagsN_bad n _ _ h) hb
    have h2 := good_of_not (fun h => rSpan_bad h) h3
    have h1 := good_of_not (fun h => rU_bad h) h2
    have e1 := rU_eats h1
    have e2 := rU_eats h2
    have e3 := rSpan_len (rU (rU r).2).1 (rU (rU r).2).2
    have e4 := rSpan_le (rU (rU r).2).1 (rU (rU r).2).2
    have ih := tags_fit n (setTag (rU r).1 (rSpan (rU (rU r).2).1 (rU (rU r).2).2).1.1 acc) (rSpan (rU (rU r).2).1 (rU (rU r).2).2).2 K (by omega) (fun p hp => by
      rcases setTag_mem hp with rfl | hp
      · show (rSpan (rU (rU r).2).1 (rU (rU r).2).2).1.1.length ≤ K; omega
      · exact ha p hp) hb
    have e5 := setTag_len (rU r).1 (rSpan (rU (rU r).2).1 (rU (rU r).2).2).1.1 acc
    exact ⟨by omega, ih.2⟩
theorem rTags_fit {r : Rd} {K : Nat} (hr : r.s.length ≤ K) (hb : (rTags r).2.bad = false) : (rTags r).1.length ≤ K ∧ ∀ p ∈ (rTags r).1, p.2.length ≤ K := by
  unfold rTags at hb ⊢
  have e := rU_len r
  have h := tags_fit (rU r).1 [] (rU r).2 K (by omega) (fun p hp => by cases hp) hb
  exact ⟨by have := h.1; simp only [List.length_nil] at this; simp only []; omega, h.2⟩
theorem fits_leaf {n : Int} {s : List UInt8} {b : Bool} (h : s.length ≤ 1000000000000) : Fits (.mk n s b [] []) := .mk _ h (by simp [Tr.l]) (by simp [Tr.u]) (fun p hp => by simp [Tr.u] at hp) (fun x hx => by simp [Tr.l] at hx)
theorem rLen_le {flex : Bool} {w : Nat} {r : Rd} {K : Nat} (h : r.s.length ≤ K) : (rLen flex w r).2.s.length ≤ K := Nat.le_trans (rLen_len flex w r) h
section
variable {v : Int} {flex : Bool}
/-- What is asked of a part. -/
def FitsD (d : Rd → Tr × Rd) : Prop := ∀ r, r.s.length ≤ 1000000000000 → (d r).2.bad = false → Fits (d r).1
theorem decV_fits {kind : Int} {part : Rd → Tr × Rd} {nul : Bool} (hp : FitsD part) : FitsD (decV kind part nul flex) := by
  intro r hr hb
  have hs : ∀ (l : Int) (q : Rd), q.s.length ≤ 1000000000000 → (rSpan l q).1.1.length ≤ 1000000000000 := fun l q h => by have := rSpan_le l q; omega
  have h2 := rLen_le (flex := flex) (w := 2) hr
  have h4 := rLen_le (flex := flex) (w := 4) hr
  unfold decV at hb ⊢
  simp only at hb ⊢
  repeat' split
  all_goals first
    | exact fits_leaf (by simp)
    | exact fits_leaf (by rw [pad16_len]; omega)
    | exact fits_leaf (hs _ _ (by assumption))
    | skip
  all_goals rename_i h0 h7 h8 h9 h10
  all_goals first | (rw [if_neg h0, if_neg h7, if_neg h8, if_neg h9, if_pos h10] at hb; exact hp r hr hb) | skip
theorem many_fits {d : Rd → Tr × Rd} (hd : FitsD d) (hsh : ∀ r, (d r).2.s.length ≤ r.s.length) (hbd : ∀ r, r.bad = true → (d r).2.bad = true) : ∀ (n : Nat) (r : Rd), r.s.length ≤ 1000000000000 → (rMany d n r).2.bad = false → ∀ x ∈ (rMany d n r).1, Fits x
  | 0, r, _, _, x, hx => by cases hx
  | n + 1, r, hr, hb, x, hx => by
    rw [rMany] at hb hx
    simp only [] at hb hx
    have h1 := good_of_not (fun h => rMany_bad hbd n _ h) hb
    rcases List.mem_cons.1 hx with rfl | hx
    · exact hd r hr h1
    · exact many_fits hd hsh hbd n _ (Nat.le_trans (hsh r) hr) hb x hx
theorem decF'_fits {f : Fd} {part : Rd → Tr × Rd} (hp : FitsD part) (hsh : ∀ r, (part r).2.s.length ≤ r.s.length) (hbd : ∀ r, r.bad = true → (part r).2.bad = true) : FitsD (decF' f part v flex) := by
  intro r hr hb
  unfold decF' at hb ⊢
  split
  · rename_i h11
    rw [if_pos h11] at hb
    simp only [] at hb ⊢
    have hl := rArr_le flex r
    have hl2 := rArr_len flex r
    refine .mk _ (by simp [Tr.s]) ?_ (by simp [Tr.u]) (fun p hp => by simp [Tr.u] at hp) ?_
    · show (rMany _ _ _).1.length ≤ _
      rw [rMany_len]; omega
    · intro x hx
      exact many_fits (decV_fits hp) (fun r => decV_shr hsh r) (fun r h => decV_bad hbd h) _ _ (by omega) hb x hx
  · rename_i h11
    rw [if_neg h11] at hb
    exact decV_fits hp r hr hb
theorem dfl_fits : ∀ {fs : List Fd}, Good fs → ∀ f ∈ fs, Fits (dflF f) := by
  intro fs h
  induction h with
  | mk fs hl ht hr ih =>
    intro f hf
    rw [dflF_eq]
    unfold dflF'
    split
    · exact fits_leaf (by simp)
    · split
      · exact fits_leaf (by simp)
      · split
        · exact fits_leaf (by simp)
        · split
          · have hg := hr f hf
            cases hg with
            | mk _ hl2 _ _ =>
            have hlen : ∀ l : List Fd, (dflFs l).length = l.length := by
              intro l
              induction l with
              | nil => simp [dflFs]
              | cons a r ih => simp [dflFs, ih]
            refine .mk _ (by simp [Tr.s]) (by show (dflFs f.sub).length ≤ _; rw [hlen]; omega) (by simp [Tr.u]) (fun p hp => by simp [Tr.u] at hp) fun x hx => ?_
            have key : ∀ l : List Fd, ∀ x ∈ dflFs l, ∃ g ∈ l, x = dflF g := by
              intro l
              induction l with
              | nil => intro x hx; simp [dflFs] at hx
              | cons a r ih =>
                intro x hx
                rw [dflFs] at hx
                rcases List.mem_cons.1 hx with rfl | hx
                · exact ⟨a, List.mem_cons_self, rfl⟩
                · obtain ⟨g, h1, h2⟩ := ih x hx
                  exact ⟨g, List.mem_cons_of_mem _ h1, h2⟩
            obtain ⟨g, h1, rfl⟩ := key f.sub x hx
            exact ih f hf g h1
          · exact fits_leaf (by simp)
theorem decFs_fits : ∀ (fs : List Fd), (∀ f ∈ fs, FitsD (decF f v flex)) → (∀ f ∈ fs, Fits (dflF f)) → ∀ r, r.s.length ≤ 1000000000000 → (decFs fs v flex r).2.bad = false → (decFs fs v flex r).1.length = fs.length ∧ ∀ x ∈ (decFs fs v flex r).1, Fits x
  | [], _, _, r, _, _ => by rw [decFs_nil]; exact ⟨rfl, fun x hx => by cases hx⟩
  | f :: fs, h, hd, r, hr, hb => by
    rw [decFs_cons] at hb ⊢
    simp only [] at hb ⊢
    have h1 : (stepF f v flex r).2.bad = false := good_of_not (fun h => decFs_bad fs v flex _ h) hb
    have hsh := stepF_shr f v flex r
    obtain ⟨g1, g2⟩ := decFs_fits fs (fun g hg => h g (List.mem_cons_of_mem _ hg)) (fun g hg => hd g (List.mem_cons_of_mem _ hg)) (stepF f v flex r).2 (by omega) hb
    refine ⟨by simp [g1], fun x hx => ?_⟩
    rcases List.mem_cons.1 hx with rfl | hx
    · unfold stepF at h1 ⊢
      split
      · rename_i hh
        rw [if_pos hh] at h1
        exact h f List.mem_cons_self r hr h1
      · exact hd f List.mem_cons_self
    · exact g2 x hx
theorem decP_fits {fs : List Fd} (h : Good fs) : FitsD (decP fs v flex) := by
  have hdf := dfl_fits h
  induction h with
  | mk fs hl ht hr ih =>
    intro r hr' hb
    rw [decP_eq] at hb ⊢
    simp only [] at hb ⊢
    have h1 : (decFs fs v flex r).2.bad = false := good_of_not (fun h => tailU_bad h) hb
    have hsh := decFs_shr fs v flex r
    obtain ⟨g1, g2⟩ := decFs_fits fs (fun f hf r hr'' hb' => by
      rw [decF_eq] at hb' ⊢
      exact decF'_fits (ih f hf (dfl_fits (hr f hf))) (fun r => decP_shr _ _ _ r) (fun r h => decP_bad _ _ _ r h) r hr'' hb') hdf r hr' h1
    have hu : (tailU flex (decFs fs v flex r).2).1.length ≤ 1000000000000 ∧ ∀ p ∈ (tailU flex (decFs fs v flex r).2).1, p.2.length ≤ 1000000000000 := by
      unfold tailU at hb ⊢
      split
      · rename_i hfl
        rw [if_pos hfl] at hb
        exact rTags_fit (by omega) hb
      · exact ⟨by simp, fun p hp => by cases hp⟩
    refine .mk _ (by simp [Tr.s]) (by show (decFs fs v flex r).1.length ≤ _; rw [g1]; omega) hu.1 (fun p hp => by have := hu.2 p hp; omega) g2
end
end Go.Sx
/- Tops: tests of interfaces and bools, two results, a law's ends. -/
namespace Go.Sx
section
variable {P : Program} {ops : Array Oper} {Q : Exit → Act → World → Prop} {rest : List Oper} {n : Nat} {l : Env} {H : Fz} {L : Own}
variable {d ty : Nat} {pos : String} {af : Array Edge} {S : World → Prop}
theorem eval_nil (a : Act) : a.eval (.const .nilIface) = .nilIface := rfl
theorem eqI0 {T : Nat} {ms : Array (String × TypeId)} (hu : P.underlying T = some (.interface ms)) (d : Nat) (w : World) : (Op.equalIn (d + 1) T .nilIface .nilIface).run P w = .ok true w := by simp [Op.equalIn, run_underlying hu]
theorem eqI1 {T t : Nat} {u : Value} {ms : Array (String × TypeId)} (hu : P.underlying T = some (.interface ms)) (d : Nat) (w : World) : (Op.equalIn (d + 1) T (.iface t u) .nilIface).run P w = .ok false w := by simp [Op.equalIn, run_underlying hu]
theorem nei0 {x : Operand} {T T' : Nat} {ms : Array (String × TypeId)} (hu : P.underlying T = some (.interface ms)) (hx : get l x = some .nilIface) (hn : Nat.blt d n = true) (h : WL P ops Q rest n ((d, .bool false) :: l) H L) : WL P ops Q (⟨some d, .binOp .neq T x (.const .nilIface) T', ty, pos, af, none⟩ :: rest) n l H L :=
  WL.vq rfl rfl hn (fun a w hA _ => by
    have h1 : (Op.equal T .nilIface .nilIface).run P w = .ok true w := eqI0 hu 9999 w
    simp [execOp, hA.get hx, eval_nil, eqGuard, binOp, h1]) h
theorem nei1 {x : Operand} {T T' t : Nat} {u : Value} {ms : Array (String × TypeId)} (hu : P.underlying T = some (.interface ms)) (hx : get l x = some (.iface t u)) (hn : Nat.blt d n = true) (h : WL P ops Q rest n ((d, .bool true) :: l) H L) : WL P ops Q (⟨some d, .binOp .neq T x (.const .nilIface) T', ty, pos, af, none⟩ :: rest) n l H L :=
  WL.vq rfl rfl hn (fun a w hA _ => by
    have h1 : (Op.equal T (.iface t u) .nilIface).run P w = .ok false w := eqI1 hu 9999 w
    simp [execOp, hA.get hx, eval_nil, eqGuard, binOp, h1]) h
theorem neb {x y : Operand} {T T' : Nat} {b : Bool} (hu : P.underlying T = some .bool) (hx : get l x = some (.bool b)) (hy : get l y = some (.bool b)) (hn : Nat.blt d n = true) (h : WL P ops Q rest n ((d, .bool false) :: l) H L) : WL P ops Q (⟨some d, .binOp .neq T x y T', ty, pos, af, none⟩ :: rest) n l H L :=
  WL.vq rfl rfl hn (fun a w hA _ => by
    have h1 := run_neq_bool (P := P) (w := w) T b b hu
    simp [execOp, hA.get hx, hA.get hy, eqGuard, h1]) h
theorem pkT {c x y : Operand} {u v : Value} (hc : get l c = some (.bool true)) (hx : get l x = some u) (hy : get l y = some v) (hn : Nat.blt d n = true) (h : WL P ops Q rest n ((d, u) :: l) H L) : WL P ops Q (⟨some d, .pick c x y, ty, pos, af, none⟩ :: rest) n l H L := pk hc hx hy hn h
theorem pkF {c x y : Operand} {u v : Value} (hc : get l c = some (.bool false)) (hx : get l x = some u) (hy : get l y = some v) (hn : Nat.blt d n = true) (h : WL P ops Q rest n ((d, v) :: l) H L) : WL P ops Q (⟨some d, .pick c x y, ty, pos, af, none⟩ :: rest) n l H L := pk hc hx hy hn h
theorem y_eqb {x y : Operand} {T T' : Nat} {b : Bool} (hu : P.underlying T = some .bool) (hx : get l x = some (.bool b)) (hy : get l y = some (.bool b)) : ∀ a, Has n l a → YieldsIf P ops S ⟨some d, .binOp .eql T x y T', ty, pos, af, none⟩ (.bool true) a := y_plain rfl fun a hA w _ => by
    have h1 := run_eql_bool (P := P) (w := w) T b b hu
    simp [execOp, hA.get hx, hA.get hy, eqGuard, h1]
/-- two results, the first of which lies in memory -/
theorem rCT {fn : Func} {H0 : Fz} {R : Value → Fz → Own → Prop} {t T b u : Nat} {v : Value} {cs : List Value} {e m : Nat} {fr : Nat × Nat} {L' : Own} (hr : fn.results = #[.cell t T, .tmp u]) (ha : ∀ w, (isAgg T).run P w = .ok true w) (hz : ∀ w, (sizeOf T).run P w = .ok m w) (hv : look l t = some (.pointer (some ⟨b, 0, none⟩))) (hu : look l u = some v) (hs : Sel L [(b, .cells cs.toArray e fr)] L') (hm : cs.length = m) (hle : H0.le H) (hQ : ∀ a w, bodyPost P fn (Ret H0 R) .ret a w → Q .ret a w) (h : R (.tuple #[.agg cs.toArray, v]) H L') : Wp P .ret Q n l H L :=
  rt fun a w hA hw => hQ a w (by
    have hp : a.tmps[t]? = some (.pointer (some ⟨b, 0, none⟩)) := hA.vals t _ hv
    have hp2 : a.tmps[u]? = some v := hA.vals u _ hu
    have hc := run_loadCells_says (P := P) (w := w) (b := b) (off := 0) (ds := cs) (fun i v hi => Says.own hs w hw.bs i v hi)
    rw [hm] at hc
    refine bodyPost_ret (v := .tuple #[.agg cs.toArray, v]) ?_ hA.defers ⟨_, H, L', rfl, hle, (hw.sel hs).drop, h⟩
    simp [results, hr, hp, hp2, asAddr, loadVar, ha, hz, hc])
end
theorem isNone_app {a' : Option Addr} {k : Nat} (h : a' = none ↔ (none : Option Addr) = none ∧ k = 0) {s : List UInt8} (hk : k = s.length) : (!a'.isNone) = !s.isEmpty := by
  cases a' with
  | none => have := (h.1 rfl).2; subst hk; simp [List.eq_nil_of_length_eq_zero this]
  | some x =>
    cases s with
    | nil => have := h.2 ⟨rfl, hk⟩; cases this
    | cons y ys => rfl
end Go.Sx

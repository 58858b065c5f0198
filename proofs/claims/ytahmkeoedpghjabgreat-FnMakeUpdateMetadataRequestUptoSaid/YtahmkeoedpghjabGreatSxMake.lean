/- The symbolic walk's laws for make and copy. -/
import Derived.Test.YtahmkeoedpghjabGreatUnk
import Derived.Laws.MakeOwn
import Derived.Laws.IdiomCopy
set_option linter.unusedVariables false
set_option linter.unusedSimpArgs false
namespace Go.Sx
theorem reps_take (zs : List Value) (m : Nat) : ∀ c, m ≤ c → (reps zs c).take (m * zs.length) = reps zs m := by
  induction m with
  | zero => intro c _; simp [reps]
  | succ m ih =>
    intro c hc
    obtain ⟨c', rfl⟩ : ∃ c', c = c' + 1 := ⟨c - 1, by omega⟩
    simp only [reps]
    rw [Nat.add_mul, Nat.one_mul, Nat.add_comm (m * zs.length), List.take_length_add_append, ih c' (by omega)]
theorem BytesAt.row {H : Fz} {e : Nat} {a : Option Addr} {m cap : Nat} {s : List UInt8} {N : Chunk} (h : a = none ∧ m = 0 ∧ cap = 0 ∨ ∃ g, a = some ⟨g, 0, none⟩ ∧ H.at g 0 (bytesOf s)) (hr : Row e 1 a m cap (bytesOf s) N) (hb : s.length ≤ B47) : BytesAt H a cap s := by
  have hl := hr.1
  rw [bytesOf_length, Nat.mul_one] at hl
  refine ⟨fun hne => ?_, by have := hr.le.1; omega, hb⟩
  rcases h with ⟨_, h0, _⟩ | ⟨g, rfl, h1⟩
  · exact absurd (List.eq_nil_of_length_eq_zero (by omega)) hne
  · exact ⟨g, 0, rfl, h1⟩
section
variable {P : Program} {ops : Array Oper} {Q : Exit → Act → World → Prop} {rest : List Oper} {n : Nat} {l : Env} {H : Fz} {L : Own}
variable {d ty : Nat} {pos : String} {af : Array Edge}
theorem madeCells_eq {z : Value} {zs : List Value} (hz : z.cells = zs.toArray) (hp : 0 < zs.length) (m : Nat) : madeCells z.cells (m * zs.length) = (reps zs m).toArray := by
  have := range_reps zs hp m
  rw [hz]
  unfold madeCells
  rw [this]
theorem mks {T e size bytes m c : Nat} {z : Value} {zs : List Value} {x y : Operand} {kl kc : IntKind} {u v : Int} (ht : P.underlying T = some (.slice e)) (hi : TI P e size bytes z) (hz : z.cells = zs.toArray)
    (hx : get l x = some (.int kl u)) (hy : get l y = some (.int kc v)) (hu : u = (m : Int)) (hv : v = (c : Int)) (hmc : m ≤ c) (hb : bytes * c ≤ 281474976710656) (h63 : c ≤ maxLen) (hn : Nat.blt d n = true)
    (h : ∀ b N', Row e size (some ⟨b, 0, none⟩) m c (reps zs m) N' → WL P ops Q rest n ((d, .slice (some ⟨b, 0, none⟩) m c) :: l) H (N' :: L)) : WL P ops Q (⟨some d, .makeSlice T x y, ty, pos, af, none⟩ :: rest) n l H L :=
  WL.vw rfl rfl hn (fun a w hA hw => by
    subst hu hv
    obtain ⟨i, hii, hsz, hby, hzz⟩ := hi.ex
    have hl : zs.length = size := by have := hi.zc; rw [hz] at this; simpa using this
    have h63' : (c : Int) ≤ 9223372036854775807 := by
      have h := h63
      simp only [maxLen] at h; omega
    have hb' : (i.bytes : Int) * (c : Int) ≤ 281474976710656 := by
      have h : ((bytes * c : Nat) : Int) ≤ 281474976710656 := by omega
      rw [hby]; rwa [Int.natCast_mul] at h
    have hr := run_make (P := P) w T e i z ht hii hzz kl kc (m : Int) (c : Int) (by omega) (by omega) hb' h63'
    simp only [Int.toNat_natCast] at hr
    rw [hsz, ← hl, madeCells_eq hz (by rw [hl]; exact hi.pos)] at hr
    refine ⟨_, _, H, [(w.heap.size, .cells (reps zs c).toArray e (0, 0))] :: L, by simp [execOp, hA.get hx, hA.get hy, hr], hw.alloc _, h w.heap.size _ ⟨?_, .inr ⟨w.heap.size, _, rfl, rfl, hmc, h63, ?_, ?_⟩⟩⟩
    · rw [reps_length, hl]
    · simp [reps_length, hl]
    · simp only []
      rw [← hl]; exact reps_take zs m c hmc)
/-- octets are copied into an own row -/
theorem cpB {dT sT e m cap m' c' : Nat} {a a' : Option Addr} {x y : Operand} {s : List UInt8} {xs : List Value} {N : Chunk} {F : Chunk → Own} (hu : P.underlying dT = some (.slice e)) (hs : (P.info? e).map (·.size) = some 1)
    (hx : get l x = some (.slice a m cap)) (hy : get l y = some (.slice a' m' c')) (hr : Row e 1 a m cap xs N) (hF : ∀ N', Upd L N N' (F N')) (hB : BytesAt H a' c' s) (hm : m' = s.length) (hn : Nat.blt d n = true)
    (h : ∀ N', Row e 1 a m cap (bytesOf (s.take m) ++ xs.drop s.length) N' → WL P ops Q rest n ((d, .int .i64 ((min s.length m : Nat) : Int)) :: l) H (F N')) :
    WL P ops Q (⟨some d, .call { callee := .builtin .copy, args := #[x, y], argTypes := #[dT, sT] }, ty, pos, af, none⟩ :: rest) n l H L :=
  WL.vw rfl rfl hn (fun w0 w hA hw => by
    subst hm
    by_cases h0 : min s.length m = 0
    · have hc := run_copy_none (P := P) w dT sT ty e a a' m cap s.length c' hu hs h0
      refine ⟨.int .i64 0, w, H, F N, by simp [execOp, resolve, invoke, builtin, hA.get hx, hA.get hy, hc, goInt], ?_, ?_⟩
      · rw [(hF N).same]; exact hw
      · have e1 : bytesOf (s.take m) ++ xs.drop s.length = xs := by
          have hl := hr.1
          by_cases hs0 : s.length = 0
          · have : s = [] := List.eq_nil_of_length_eq_zero hs0
            subst this; simp [bytesOf]
          · have hm0 : m = 0 := by omega
            subst hm0
            have : xs = [] := List.eq_nil_of_length_eq_zero (by simpa using hl)
            subst this; simp [bytesOf]
        have := h N (by rw [e1]; exact hr)
        rw [h0] at this
        exact this
    · obtain ⟨b, o, rfl, hb⟩ := hB.at_ (by intro e0; subst e0; simp at h0)
      have hl := hr.1
      rcases hr.2 with ⟨_, hm0, _⟩ | ⟨g, cur, rfl, rfl, hnc, hcm, hcs, htake⟩
      · omega
      · have hg : w.heap[g]? = some (.cells cur e (0, 0)) := (hF []).here hw (List.mem_singleton.2 rfl)
        have hlen : (bytesOf (s.take m)).length = Nat.min s.length m := by rw [bytesOf_length, List.length_take]; exact Nat.min_comm _ _
        have hmin : Nat.min s.length m ≤ m := Nat.min_le_right _ _
        have hsrc : ∀ j v, (bytesOf (s.take m))[j]? = some v → w.cell? ((⟨b, o, none⟩ : Addr).add j) = some v := by
          intro j v hj
          rw [add_plain]
          refine hb.cellB hw.bs ?_
          simp only [bytesOf, List.getElem?_map, List.getElem?_take] at hj ⊢
          split at hj
          · exact hj
          · simp at hj
        have hc := run_copy_row (P := P) w dT sT ty e g 0 m cap ⟨b, o, none⟩ s.length c' cur e (bytesOf (s.take m)) hu hs hg hlen hsrc (by rw [hlen, hcs]; omega) (bytesOf_one _)
        simp only [List.take_zero, List.nil_append, Nat.zero_add] at hc
        rw [hlen] at hc
        refine ⟨goInt (Nat.min s.length m), _, H, F [(g, .cells (bytesOf (s.take m) ++ cur.toList.drop (Nat.min s.length m)).toArray e (0, 0))], by simp [execOp, resolve, invoke, builtin, hA.get hx, hA.get hy, hc], setRow_turn hw (hF _), h _ ⟨?_, .inr ⟨g, _, rfl, rfl, hnc, hcm, ?_, ?_⟩⟩⟩
        · rw [List.length_append, hlen, List.length_drop, hl]
          simp only [Nat.min_def]; split <;> omega
        · simp only [List.size_toArray, List.length_append, hlen, List.length_drop, Array.length_toList, hcs]
          simp only [Nat.min_def]; split <;> omega
        · simp only []
          rw [List.take_append, hlen, List.take_of_length_le (by rw [hlen]; omega)]
          congr 1
          rw [← htake]
          simp only [Nat.mul_one, List.drop_take]
          by_cases hsm : s.length ≤ m
          · rw [show Nat.min s.length m = s.length from Nat.min_eq_left hsm]
          · rw [show Nat.min s.length m = m from Nat.min_eq_right (by omega), Nat.sub_self, show m - s.length = 0 by omega]
            simp)
theorem src_row {tx e' e m cap : Nat} {a : Option Addr} {s : List UInt8} {N : Chunk} {L' : Own} (hk : P.underlying tx = some (.slice e')) (hr : Row e 1 a m cap (bytesOf s) N) (hs : Sel L N L') : ∀ w, Hp H L w → Src P 1 tx (.slice a m cap) m (bytesOf s) w := by
  intro w hw
  rcases hr.2 with ⟨rfl, rfl, rfl, _⟩ | ⟨g, cur, rfl, _⟩
  · have h0 : s = [] := List.eq_nil_of_length_eq_zero (by have := hr.1; rw [bytesOf_length] at this; omega)
    subst h0
    exact src_nil hk w hw
  · exact src_says hk hr.1 (fun _ => hr.says hs) (bytesOf_one s) w hw
/-- a test whose bool is known behind it -/
theorem cdU {t : Nat} {x y : Code} {p : Prop} [Decidable p] (hc : look l t = some (.bool (decide p))) (ht : p → Wp P x Q n ((t, .bool true) :: l) H L) (hf : ¬ p → Wp P y Q n ((t, .bool false) :: l) H L) : Wp P (.cond (.tmp t) x y) Q n l H L :=
  cd hc (fun hp => (ht hp).env (Sub.cons (by rw [hc]; simp [hp]) (Sub.refl l))) (fun hp => (hf hp).env (Sub.cons (by rw [hc]; simp [hp]) (Sub.refl l)))
theorem cbU {t : Nat} {x y : Code} {b : Bool} (hc : look l t = some (.bool b)) (ht : b = true → Wp P x Q n ((t, .bool true) :: l) H L) (hf : b = false → Wp P y Q n ((t, .bool false) :: l) H L) : Wp P (.cond (.tmp t) x y) Q n l H L :=
  cb hc (fun hp => (ht hp).env (Sub.cons (by rw [hc, hp]) (Sub.refl l))) (fun hp => (hf hp).env (Sub.cons (by rw [hc, hp]) (Sub.refl l)))
theorem toNn (h : Nn Q n l H L) : ∀ a w, Has n l a → Hp H L w → Q .normal a w := h
end
end Go.Sx

/- Known tags in memory: the list of those that are written; what is as usual. -/
import Derived.Test.YtpcgaheplmiglaaGreatTagW
import Derived.Test.YtpcgaheplmiglaaGreatToldL
import Derived.Test.YtpcgaheplmiglaaGreatLibG
import Derived.Test.YtpcgaheplmiglaaGreatLibI
set_option linter.unusedVariables false
set_option linter.unusedSimpArgs false
namespace Go.Sx
def u32L (l : List Nat) : List Value := List.map (fun t : Nat => Value.int .u32 (t : Int)) l
theorem u32L_nth {l : List Nat} {k : Nat} (hk : k < l.length) : nth (u32L l) k = some (.int .u32 ((l[k] : Nat) : Int)) := by rw [nth_eq]; simp [u32L, hk]
theorem u32L_len (l : List Nat) : (u32L l).length = l.length := by simp [u32L]
theorem u32L_one (l : List Nat) : ∀ u ∈ u32L l, u.oneCell' = true := by
  intro u hu
  obtain ⟨t, _, rfl⟩ := List.mem_map.1 hu
  rfl
theorem u32L_snoc (l : List Nat) (t : Nat) : u32L l ++ [.int .u32 (t : Int)] = u32L (l ++ [t]) := by simp [u32L]
/-- a slice's head -/
theorem Row.cut {e m cap : Nat} {a : Option Addr} {X Y : List UInt8} {N : Chunk} (h : Row e 1 a m cap (bytesOf (X ++ Y)) N) : Row e 1 a X.length cap (bytesOf X) N := by
  have hl : X.length + Y.length = m := by have := h.1; rw [bytesOf_length, List.length_append] at this; omega
  refine ⟨by rw [bytesOf_length]; omega, ?_⟩
  rcases h.2 with ⟨rfl, rfl, rfl, rfl⟩ | ⟨g, cur, rfl, rfl, h1, h2, h3, h4⟩
  · exact .inl ⟨rfl, by omega, rfl, rfl⟩
  · refine .inr ⟨g, cur, rfl, rfl, by omega, h2, h3, ?_⟩
    have := congrArg (List.take X.length) h4
    rw [List.take_take, Nat.mul_one, Nat.min_eq_left (by omega)] at this
    rw [Nat.mul_one, this, bytesOf_append, List.take_append_of_le_length (by rw [bytesOf_length]; omega), List.take_of_length_le (by rw [bytesOf_length]; omega)]
theorem enc_at {H : Fz} {a : Option Addr} {m cap k : Nat} {l : List Nat} (h : a = none ∧ m = 0 ∧ cap = 0 ∨ ∃ g, a = some ⟨g, 0, none⟩ ∧ H.at g 0 (u32L l)) (hm : m = l.length) (hk : k < l.length) : ∃ g, a = some ⟨g, 0, none⟩ ∧ H.at g 0 (u32L l) := by
  rcases h with ⟨_, h, _⟩ | h
  · omega
  · exact h
section
variable {f : Fd} {v : Int} {flex : Bool} {x : Tr}
theorem FU_list (h : f.kind = 11) : fieldU f x = x.l.isEmpty := by
  rw [fieldU_eq]; unfold usual'
  rw [if_neg (by omega), if_neg (by omega), if_neg (by omega), if_pos h]
theorem FU_bool (h : f.kind = 0) : fieldU f x = decide (x.n % 2 = f.df) := by
  rw [fieldU_eq]; unfold usual'
  rw [if_pos h]
theorem fixed8_inj {a b : Int} (ha : -9223372036854775808 ≤ a ∧ a ≤ 9223372036854775807) (hb : -9223372036854775808 ≤ b ∧ b ≤ 9223372036854775807) (h : fixed a 8 = fixed b 8) : a = b := by
  have h1 := beN_fixed a 8
  have h2 := beN_fixed b 8
  rw [h] at h1
  have h3 : a % 2 ^ (8 * 8) = b % 2 ^ (8 * 8) := h1.symm.trans h2
  simp only [show ((2 : Int) ^ (8 * 8)) = 18446744073709551616 from rfl] at h3
  omega
theorem fixed4_inj {a b : Int} (h : fixed a 4 = fixed b 4) : IntKind.i32.wrap a = IntKind.i32.wrap b := by
  have h1 := beN_fixed a 4
  have h2 := beN_fixed b 4
  rw [h] at h1
  have h3 : a % 2 ^ (8 * 4) = b % 2 ^ (8 * 4) := h1.symm.trans h2
  simp only [show ((2 : Int) ^ (8 * 4)) = 4294967296 from rfl] at h3
  rw [← wrap_mod32 a, ← wrap_mod32 b, h3]
theorem FU_i64 (h : f.kind = 4) (hx : -9223372036854775808 ≤ x.n ∧ x.n ≤ 9223372036854775807) (hd : -9223372036854775808 ≤ f.df ∧ f.df ≤ 9223372036854775807) : fieldU f x = decide (x.n = f.df) := by
  rw [fieldU_eq]; unfold usual'
  rw [if_neg (by omega), if_neg (by omega), if_neg (by omega), if_neg (by omega), if_neg (by omega), h]
  show (fixed x.n 8 == fixed f.df 8) = _
  by_cases he : x.n = f.df
  · rw [he]; simp
  · rw [decide_eq_false he]
    have : ¬ fixed x.n 8 = fixed f.df 8 := fun h => he (fixed8_inj hx hd h)
    simpa using this
theorem FU_i32 (h : f.kind = 3) : fieldU f x = decide (IntKind.i32.wrap x.n = IntKind.i32.wrap f.df) := by
  rw [fieldU_eq]; unfold usual'
  rw [if_neg (by omega), if_neg (by omega), if_neg (by omega), if_neg (by omega), if_neg (by omega), h]
  show (fixed x.n 4 == fixed f.df 4) = _
  by_cases he : fixed x.n 4 = fixed f.df 4
  · rw [he, fixed4_inj he]; simp
  · have h2 : ¬ IntKind.i32.wrap x.n = IntKind.i32.wrap f.df := fun h => he (by rw [← fixed_i32 x.n, ← fixed_i32 f.df, h])
    rw [decide_eq_false h2]
    simpa using he
theorem FU_part (h : f.kind = 10) : fieldU f x = (fieldsU f.sub 0 x && (unknown f.sub x.u).isEmpty) := by
  rw [fieldU_eq]; unfold usual'
  rw [if_neg (by omega), if_neg (by omega), if_neg (by omega), if_neg (by omega), if_pos h]
theorem lT_tag (h : OkFE f v x) (h0 : f.kind = 11) (hn : f.nul < 0) : lT x = x.l := by
  unfold lT
  cases hx : x.nul with
  | false => rfl
  | true =>
    rcases h.nul hx with ⟨h1, _⟩ | ⟨_, _, h1⟩
    · omega
    · rw [h1]; rfl
theorem FU_list_no (h : OkFE f v x) (h0 : f.kind = 11) (hn : f.nul < 0) (hl : (0 : Int) < ((lT x).length : Int)) : fieldU f x = false := by
  rw [FU_list h0]
  rw [lT_tag h h0 hn] at hl
  cases hx : x.l with
  | nil => rw [hx] at hl; simp at hl
  | cons y l => rfl
theorem FU_list_yes (h : OkFE f v x) (h0 : f.kind = 11) (hn : f.nul < 0) (hl : ¬ (0 : Int) < ((lT x).length : Int)) : fieldU f x = true := by
  rw [FU_list h0]
  rw [lT_tag h h0 hn] at hl
  cases hx : x.l with
  | nil => rfl
  | cons y l => rw [hx] at hl; simp at hl
theorem FB_listT (h0 : f.kind = 11) (hn : f.nul < 0) (h : OkFE f v x) : fieldB f v flex x = counted flex false (lT x).length 4 ++ (lT x).flatMap (GOf f v flex) := by
  rw [fieldB_eq]; unfold fieldB'
  rw [if_pos h0]
  have e1 : f.isNul v x = false := by unfold Fd.isNul; rw [decide_eq_false (show ¬ 0 ≤ f.nul by omega)]; simp
  simp only [e1, lT_tag h h0 hn, things_le (h.len h0)]; rfl
end
/-- the count ahead of the tags, as the code adds it -/
theorem tgN_add {fs : List Fd} {x : Tr} {n : Nat} (hn : known fs = n) (hb : (encT (tgU fs x) n).length + x.u.length < 4294967296) : IntKind.i64.wrap (((encT (tgU fs x) n).length : Int) + (x.u.length : Int)) = ((tgN fs x : Nat) : Int) := by
  have h : ((tgN fs x : Nat) : Int) = ((encT (tgU fs x) n).length : Int) + (x.u.length : Int) := by unfold tgN; rw [hn]; omega
  rw [h, w64 (by omega) (by omega)]
theorem resz_len {B F : List UInt8} (h : F.length < 4294967296) : IntKind.u32.wrap (((B ++ F).length - B.length : Nat) : Int) = (F.length : Int) := by
  rw [List.length_append, Nat.add_sub_cancel_left]
  exact w32u (by omega) (by omega)
section
variable {P : Program} {Q : Exit → Act → World → Prop} {n : Nat} {l : Env} {H : Fz} {L : Own}
theorem nbF {ops : Array Oper} {rest : List Oper} {d ty : Nat} {pos : String} {af : Array Edge} {x : Operand} {T T' : Nat} {b : Bool} (hu : P.underlying T = some .bool) (hx : get l x = some (.bool b)) (hn : Nat.blt d n = true) (h : WL P ops Q rest n ((d, .bool b) :: l) H L) : WL P ops Q (⟨some d, .binOp .neq T x (.const (.bool false)) T', ty, pos, af, none⟩ :: rest) n l H L :=
  WL.vq rfl rfl hn (fun a w hA _ => by
    have h1 := run_neq_bool (P := P) (w := w) T b false hu
    have h2 : a.eval (.const (.bool false)) = .bool false := rfl
    simp [execOp, hA.get hx, h2, eqGuard, h1]) h
/-- a scope that is run twice: once up to its jump, and from its label on -/
theorem scT {c rst : Code} (l0 : Nat) (I : Env → Fz → Own → Prop) (hf : findLabel c l0 = some rst)
    (h1 : Wp P c (Exit.jump l0 (St n H I) Q) n l H L)
    (h2 : ∀ l' H' L', H.le H' → I l' H' L' → Wp P rst (Exit.jump l0 (fun a' w' => St n H I a' w' ∧ 0 < 0) Q) n l' H' L') : Wp P (.scope c) Q n l H L :=
  sc (St n H I) hf h1 fun a w hJ => by
    obtain ⟨l', H', L', g1, g2, g3, g4⟩ := hJ
    exact h2 l' H' L' g2 g4 a w g1 g3
theorem scN {l0 : Nat} {J : Act → World → Prop} (h : Nn Q n l H L) : Nn (Exit.jump l0 J Q) n l H L := h
end
end Go.Sx

import Derived.Test.YtdacadmfdhjpoaaDoorSxTab
import Derived.Test.YtdacadmfdhjpoaaDoorLibC
import Derived.KernelRfl
set_option linter.unusedVariables false
set_option linter.unusedSimpArgs false
set_option maxRecDepth 100000
set_option maxHeartbeats 20000000
namespace Go.Sx
open Go.Proofs
theorem s_version {H : Fz} {L : Own} {n most : Nat} (hn : n < 256) (hm : most ≤ 1000) :
    Fn Tryd.prog 6 [.int .u8 (n : Int), .int .i64 (most : Int)] H L (fun v H' L' => H = H' ∧ L = L' ∧ v = .int .i64 ((n % (most + 1) : Nat) : Int)) := by
  refine Fn.mk Tryd.call6 Tryd.func6 rfl Tryd.ntmps6 rfl ?_
  refine sr ?_
  refine asg rfl rfl ?_
  refine nl ?_
  refine sr ?_
  refine mv rfl rfl ?_
  refine cv Tryd.runUnderlying5 Tryd.runUnderlying3 rfl (w64 (by omega) (by omega)) rfl ?_
  refine mv rfl rfl ?_
  refine ad rfl rfl (w64 (by omega) (by omega)) rfl ?_
  refine rm (c := ((n % (most + 1) : Nat) : Int)) rfl rfl (by omega) (by rw [Int.tmod_eq_emod_of_nonneg (by omega)]; simp) rfl ?_
  refine asg rfl rfl ?_
  refine nl ?_
  exact rT rfl rfl (Fz.le.refl _) (fun _ _ h => h) ⟨rfl, rfl, rfl⟩
theorem s_same {H : Fz} {L : Own} {a a' : Option Addr} {c c' : Nat} {s t : List UInt8} (h1 : BytesAt H a c s) (h2 : BytesAt H a' c' t) :
    Fn Tryd.prog 16 [.slice a s.length c, .slice a' t.length c'] H L (fun v H' L' => H = H' ∧ L = L' ∧ v = .bool (decide (s = t))) := by
  refine Fn.mk Tryd.call16 Tryd.func16 rfl Tryd.ntmps16 rfl ?_
  refine sr ?_
  refine asg rfl rfl ?_
  refine nl ?_
  refine sq ?_
  refine sr ?_
  refine mv rfl rfl ?_
  refine ls Tryd.runUnderlying22 rfl rfl ?_
  refine mv rfl rfl ?_
  refine ls Tryd.runUnderlying22 rfl rfl ?_
  refine ne' rfl rfl rfl ?_
  refine nl ?_
  refine cd rfl (fun h10 => ?_) (fun h10 => ?_)
  · skip
    refine sr ?_
    refine asg rfl rfl ?_
    refine nl ?_
    exact rT rfl rfl (Fz.le.refl _) (fun _ _ h => h) ⟨rfl, rfl, by rw [decide_eq_false]; intro e; subst e; omega⟩
  · skip
    refine skt ?_
    refine sq ?_
    refine sr ?_
    refine mv rfl rfl ?_
    refine ls Tryd.runUnderlying22 rfl rfl ?_
    refine mv rfl rfl ?_
    refine nl ?_
    refine capL (fun F_3 hF_3 => ?_)
    refine fr (s.length) (fun k l' H' L' => [(0, .slice a s.length c), (1, .slice a' t.length c'), (12, .int .i64 (s.length : Int))] = l' ∧ H = H' ∧ F_3 = L' ∧ s.take k = t.take k) [(0, .slice a s.length c), (1, .slice a' t.length c'), (12, .int .i64 (s.length : Int))] (fun k l' H' L' h => ?_) (by have := h1.len; omega) rfl (.cons rfl (.cons rfl (.cons rfl (.nil _)))) ⟨rfl, rfl, rfl, by simp⟩ rfl rfl rfl rfl rfl (fun k l' H' L' hk le_1 hI => ?_) (fun l' H' L' le_2 hI => ?_)
    · obtain ⟨rfl, _⟩ := h; exact ⟨rfl, rfl, rfl, rfl⟩
    · skip
      obtain ⟨rfl, rfl, rfl, pk0⟩ := hI
      subst hF_3
      refine sr ?_
      refine mv rfl rfl ?_
      refine asg rfl rfl ?_
      refine nl ?_
      refine sq ?_
      refine rgD 9 .nil mixed ?_
      refine dT 0 rfl rfl rfl (by kernel_rfl) (fun _ _ _ h => h) (y_mv rfl) .nil (Fz.le.refl _) ?_
      refine dT 1 rfl rfl rfl (by kernel_rfl) (fun _ _ _ h => h) (y_mv rfl) .nil (Fz.le.refl _) ?_
      obtain ⟨b_4, o_5, e_6, q_7⟩ := h1.at_ (ne_nil_of_lt hk)
      refine dT 2 rfl rfl rfl (by kernel_rfl) (fun _ _ _ h => h) (y_ix2 Tryd.runUnderlying22 Tryd.sizeOf5 rfl e_6 rfl rfl hk) .nil (Fz.le.refl _) ?_
      refine dT 3 rfl rfl rfl (by kernel_rfl) (fun _ _ _ h => h) (y_ld (Says.fz q_7) Tryd.isAgg5 rfl (by omega) (bytesOf_nth hk)) .nil (Fz.le.refl _) ?_
      refine dT 4 rfl rfl rfl (by kernel_rfl) (fun _ _ _ h => h) (y_mv rfl) .nil (Fz.le.refl _) ?_
      refine dT 5 rfl rfl rfl (by kernel_rfl) (fun _ _ _ h => h) (y_mv rfl) .nil (Fz.le.refl _) ?_
      obtain ⟨b_8, o_9, e_10, q_11⟩ := h2.at_ (ne_nil_of_lt (show k < t.length by omega))
      refine dT 6 rfl rfl rfl (by kernel_rfl) (fun _ _ _ h => h) (y_ix2 Tryd.runUnderlying22 Tryd.sizeOf5 rfl e_10 rfl rfl (show k < t.length by omega)) .nil (Fz.le.refl _) ?_
      refine dT 7 rfl rfl rfl (by kernel_rfl) (fun _ _ _ h => h) (y_ld (Says.fz q_11) Tryd.isAgg5 rfl (by omega) (bytesOf_nth (show k < t.length by omega))) .nil (Fz.le.refl _) ?_
      refine dT 8 rfl rfl rfl (by kernel_rfl) (fun _ _ _ h => h) (y_ne rfl rfl) .nil (Fz.le.refl _) ?_
      refine dD (by kernel_rfl) ?_
      refine Nt ?_
      refine cd rfl (fun h24 => ?_) (fun h24 => ?_)
      · skip
        refine sr ?_
        refine asg rfl rfl ?_
        refine nl ?_
        exact rT rfl rfl (Fz.le.refl _) (fun _ _ h => h) ⟨rfl, rfl, by rw [decide_eq_false]; intro e; subst e; omega⟩
      · skip
        refine skN ?_
        refine Nb ?_
        refine fun a w hA hw => ⟨_, _, _, hA.sub ?_, (Fz.le.refl _), hw, _, rfl, rfl, rfl, rfl, take_eq_step hk (by omega) pk0 (by apply UInt8.toNat_inj.1; omega)⟩
        exact (.cons rfl (.cons rfl (.cons rfl (.cons rfl (.nil _)))))
    · skip
      obtain ⟨rfl, rfl, rfl, pk0⟩ := hI
      subst hF_3
      refine toWp ?_
      refine sr ?_
      refine asg rfl rfl ?_
      refine nl ?_
      exact rT rfl rfl (Fz.le.refl _) (fun _ _ h => h) ⟨rfl, rfl, by rw [decide_eq_true]; rw [List.take_length] at pk0; rw [pk0]; exact List.take_of_length_le (by omega)⟩
end Go.Sx

import Derived.Test.YtahmkeoedpghjaaSxTab
import Derived.Test.YtahmkeoedpghjaaKB2
import Derived.Test.YtahmkeoedpghjaaMkL
import Derived.KernelRfl
set_option linter.unusedVariables false
set_option linter.unusedSimpArgs false
set_option maxRecDepth 100000
set_option maxHeartbeats 20000000
namespace Go.Sx
open Go.Proofs
theorem m_at {H : Fz} {L : Own} {c : TC} {t : Tr} {i : Nat} (hT : TreeAt H c t) :
    Fn Try.prog 121 [.agg (c.cells t).toArray, .int .i64 (i : Int)] H L (fun v H' L' => H = H' ∧ L = L' ∧ ∃ c', v = .agg (c'.cells (t.at i)).toArray ∧ TreeAt H c' (t.at i)) := by
  refine Fn.mk Try.call121 Try.func121 rfl Try.ntmps121 rfl ?_
  refine sr ?_
  refine bx rfl rfl rfl (fun b_1 => ?_)
  refine al Try.zeroValue39 rfl rfl (fun b_2 => ?_)
  refine nl ?_
  refine sq ?_
  refine sr ?_
  refine mv rfl rfl ?_
  refine fa0 F39_3 rfl rfl ?_
  refine ld (Says.own (.tail .head)) Try.isAgg36 rfl (Nat.zero_add _).symm rfl rfl ?_
  refine ls Try.runUnderlying36 rfl rfl ?_
  refine lt rfl rfl rfl ?_
  refine nl ?_
  refine cd rfl (fun h9 => ?_) (fun h9 => ?_)
  · skip
    refine sr ?_
    refine fa0 F39_3 rfl rfl ?_
    refine ld (Says.own (.tail .head)) Try.isAgg36 rfl (Nat.zero_add _).symm rfl rfl ?_
    refine mv rfl rfl ?_
    have hi : i < t.l.length := by omega
    obtain ⟨b_3, o_4, e_5, g_6⟩ := hT.l.at_ (ne_nil_of_lt hi)
    obtain ⟨c_7, q_8, q_9⟩ := g_6 i hi
    refine ix2 Try.runUnderlying36 Try.sizeOf39 rfl e_5 rfl rfl hi rfl ?_
    refine la (Says.fz q_8) Try.isAgg39 Try.sizeOf39 rfl (Nat.add_zero _).symm rfl rfl ?_
    refine sa Try.sizeOf39 rfl rfl rfl rfl rfl .head ?_
    refine nl ?_
    have e1 := Tr.at_lt hi
    refine drW (.tail .head) ?_
    exact rC rfl Try.isAgg39 Try.sizeOf39 rfl .head rfl (Fz.le.refl _) (fun _ _ h => h) ⟨rfl, rfl, c_7, by rw [e1]; rfl, by rw [e1]; exact q_9⟩
  · skip
    refine skt ?_
    refine sr ?_
    refine bd' S39 rfl rfl rfl ?_
    refine sa Try.sizeOf39 rfl rfl rfl rfl rfl .head ?_
    refine nl ?_
    refine drW (.tail .head) ?_
    exact rC rfl Try.isAgg39 Try.sizeOf39 rfl .head rfl (Fz.le.refl _) (fun _ _ h => h) ⟨rfl, rfl, .none, by rw [Tr.at_ge (by omega)]; rfl, by rw [Tr.at_ge (by omega)]; exact .none H⟩
theorem m_textOf {H : Fz} {L : Own} {c : TC} {T : Tr} (hT : TreeAt H c T) :
    Fn Try.prog 122 [.agg (c.cells T).toArray] H L (fun v H' L' => L = L' ∧ ∃ p, v = .pointer p ∧ TextAt H' T p) := by
  refine Fn.mk Try.call122 Try.func122 rfl Try.ntmps122 rfl ?_
  refine sr ?_
  refine bx rfl rfl rfl (fun b_1 => ?_)
  refine asg rfl rfl ?_
  refine nl ?_
  refine sq ?_
  refine sr ?_
  refine fa0 F39_2 rfl rfl ?_
  refine ld (Says.own .head) Try.isAgg4 rfl (Nat.zero_add _).symm rfl rfl ?_
  refine nl ?_
  refine cb rfl (fun h5 => ?_) (fun h5 => ?_)
  · skip
    have hb := h5
    refine sr ?_
    refine asg rfl rfl ?_
    refine nl ?_
    refine drW .head ?_
    exact rT rfl rfl (Fz.le.refl _) (fun _ _ h => h) ⟨rfl, none, rfl, ⟨hb.symm, fun ad h => by cases h⟩⟩
  · skip
    have hb := h5
    refine skt ?_
    refine sr ?_
    refine fa0 F39_1 rfl rfl ?_
    refine ld (Says.own .head) Try.isAgg22 rfl (Nat.zero_add _).symm rfl rfl ?_
    refine cbS Try.underlying22 Try.underlying5 Try.underlying9 rfl hT.s rfl rfl ?_
    refine al Try.zeroValue9 rfl rfl (fun b_2 => ?_)
    refine st Try.sizeOf9 rfl rfl rfl rfl .head ?_
    refine nl ?_
    refine sr ?_
    refine asg rfl rfl ?_
    refine nl ?_
    refine drW (.tail .head) ?_
    refine frW (Row.whole (size := 1) (m := 1) rfl (by decide)) .head (fun H2 hle2 hz => ?_)
    have hz2 : H2.at b_2 0 [.string ⟨T.s.toArray⟩] := by
      rcases hz with ⟨h, _⟩ | ⟨g, h, h2⟩
      · cases h
      · cases h; exact h2
    exact rT rfl rfl hle2 (fun _ _ h => h) ⟨rfl, some ⟨b_2, 0, none⟩, rfl, ⟨hb.symm, fun ad h => ⟨b_2, (Option.some.inj h).symm, hz2⟩⟩⟩
theorem m_octetsOf {H : Fz} {L : Own} {c : TC} {T : Tr} (hT : TreeAt H c T) :
    Fn Try.prog 148 [.agg (c.cells T).toArray] H L (fun v H' L' => L = L' ∧ ∃ a c', v = .slice a (sT T).length c' ∧ OctAt H' T a c') := by
  refine Fn.mk Try.call148 Try.func148 rfl Try.ntmps148 rfl ?_
  refine sr ?_
  refine bx rfl rfl rfl (fun b_1 => ?_)
  refine asg rfl rfl ?_
  refine nl ?_
  refine sq ?_
  refine sr ?_
  refine fa0 F39_2 rfl rfl ?_
  refine ld (Says.own .head) Try.isAgg4 rfl (Nat.zero_add _).symm rfl rfl ?_
  refine nl ?_
  refine cb rfl (fun h4 => ?_) (fun h4 => ?_)
  · skip
    have hb := h4
    refine sr ?_
    refine asg rfl rfl ?_
    refine nl ?_
    refine drW .head ?_
    have e0 : sT T = [] := by simp [sT, hb]
    exact rT rfl rfl (Fz.le.refl _) (fun _ _ h => h) ⟨rfl, none, 0, by rw [e0]; rfl, ⟨by rw [e0]; exact .nil _, hb.symm⟩⟩
  · skip
    have hb := h4
    refine skt ?_
    refine sr ?_
    refine bs' L22 rfl rfl rfl rfl (fun b_2 => ?_)
    refine fa0 F39_1 rfl rfl ?_
    refine ld (Says.own (.tail .head)) Try.isAgg22 rfl (Nat.zero_add _).symm rfl rfl ?_
    have hbl := hT.s.len
    refine ap (news := bytesOf T.s) Try.underlying22 I5 rfl rfl (Row.whole (e := 5) (size := 1) (m := 0) (ds := []) rfl (by decide)) (fun _ => .head) (src_bytes Try.underlying22 hT.s rfl) (by omega) (by unfold maxLen; omega) rfl (fun a8 c8 N8 r8 z8 => ?_)
    refine asg rfl rfl ?_
    refine nl ?_
    refine drW (.tail .head) ?_
    have e0 : sT T = T.s := by simp [sT, hb]
    simp only [List.nil_append, Nat.zero_add] at r8
    refine frW r8 .head (fun H2 hle2 hz => ?_)
    exact rT rfl rfl hle2 (fun _ _ h => h) ⟨rfl, a8, c8, by rw [e0, Nat.zero_add], ⟨by rw [e0]; exact BytesAt.row hz r8 (by have := hT.s.big; exact this), by rw [hb]; cases ha : a8 with | none => exact absurd (z8.1 ha).1 (by simp) | some _ => rfl⟩⟩
theorem m_sixteen {H : Fz} {L : Own} {a : Option Addr} {c : Nat} {x : List UInt8} (hx : BytesAt H a c x) :
    Fn Try.prog 156 [.slice a x.length c] H L (fun v H' L' => H = H' ∧ L = L' ∧ v = .agg (u16 x).toArray) := by
  refine Fn.mk Try.call156 Try.func156 rfl Try.ntmps156 rfl ?_
  refine sr ?_
  refine al Try.zeroValue98 rfl rfl (fun b_1 => ?_)
  refine nl ?_
  refine sr ?_
  refine sl16 Try.runUnderlying98 Try.sizeOf5 rfl rfl ?_
  refine mv rfl rfl ?_
  refine cpB2 Try.underlying22 (by kernel_rfl) rfl rfl (Row.whole (e := 98) (size := 1) (m := 16) (ds := reps [.int .u8 0] 16) rfl (by decide)) (fun _ => .head) hx rfl rfl (fun N5 r5 => ?_)
  rw [show (reps [Value.int .u8 0] 16 : List Value) = reps [Value.int .u8 0] 16 from rfl, row16] at r5
  obtain ⟨cs, rfl, hcs⟩ : ∃ cs, N5 = [(b_1, .cells cs 98 (0, 0))] ∧ cs = (u16 x).toArray := by
    rcases r5.2 with ⟨h, _⟩ | ⟨g, cur, h1, h2, _, _, h3, h4⟩
    · cases h
    · cases h1
      refine ⟨cur, h2, ?_⟩
      apply Array.ext'
      rw [u16_eq]
      have h5 : cur.toList.length = 16 := by simpa using h3
      rw [List.take_of_length_le (by omega)] at h4
      exact h4
  subst hcs
  refine nl ?_
  refine sr ?_
  refine la (Says.own .head) Try.isAgg98 Try.sizeOf98 rfl (Nat.zero_add _).symm rfl rfl ?_
  refine sa Try.sizeOf98 rfl rfl rfl rfl rfl .head ?_
  refine nl ?_
  exact rC rfl Try.isAgg98 Try.sizeOf98 rfl .head rfl (Fz.le.refl _) (fun _ _ h => h) ⟨rfl, rfl, rfl⟩
end Go.Sx

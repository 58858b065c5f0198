import Derived.Test.YtpcgaheplmiglaaGreatSxTab
import Derived.Test.YtpcgaheplmiglaaGreatKB2
import Derived.Test.YtpcgaheplmiglaaGreatMkL
import Derived.KernelRfl
set_option linter.unusedVariables false
set_option linter.unusedSimpArgs false
set_option maxRecDepth 100000
set_option maxHeartbeats 20000000
namespace Go.Sx
open Go.Proofs
theorem m_at {H : Fz} {L : Own} {c : TC} {t : Tr} {i : Nat} (hT : TreeAt H c t) :
  Fn Tryz.prog 29 [.agg (c.cells t).toArray, .int .i64 (i : Int)] H L (fun v H' L' => H = H' ∧ L = L' ∧ ∃ c', v = .agg (c'.cells (t.at i)).toArray ∧ TreeAt H c' (t.at i)) := by
 refine Fn.mk Tryz.call29 Tryz.func29 rfl Tryz.ntmps29 rfl ?_
 refine sr ?_
 refine bx rfl rfl rfl (fun b_1 => ?_)
 refine al Tryz.zeroValue39 rfl rfl (fun b_2 => ?_)
 refine nl ?_
 refine sq ?_
 refine sr ?_
 refine mv rfl rfl ?_
 refine fa0 F39_3 rfl rfl ?_
 refine ld (Says.own (.tail .head)) Tryz.isAgg36 rfl (Nat.zero_add _).symm rfl rfl ?_
 refine ls Tryz.runUnderlying36 rfl rfl ?_
 refine lt rfl rfl rfl ?_
 refine nl ?_
 refine cd rfl (fun h9 => ?_) (fun h9 => ?_)
 ·
  refine sr ?_
  refine fa0 F39_3 rfl rfl ?_
  refine ld (Says.own (.tail .head)) Tryz.isAgg36 rfl (Nat.zero_add _).symm rfl rfl ?_
  refine mv rfl rfl ?_
  have hi : i < t.l.length := by omega
  obtain ⟨b_3, o_4, e_5, g_6⟩ := hT.l.at_ (ne_nil_of_lt hi)
  obtain ⟨c_7, q_8, q_9⟩ := g_6 i hi
  refine ix2 Tryz.runUnderlying36 Tryz.sizeOf39 rfl e_5 rfl rfl hi rfl ?_
  refine la (Says.fz q_8) Tryz.isAgg39 Tryz.sizeOf39 rfl (Nat.add_zero _).symm rfl rfl ?_
  refine sa Tryz.sizeOf39 rfl rfl rfl rfl rfl .head ?_
  refine nl ?_
  have e1 := Tr.at_lt hi
  refine drW (.tail .head) ?_
  exact rC rfl Tryz.isAgg39 Tryz.sizeOf39 rfl .head rfl ler (fun _ _ h => h) ⟨rfl, rfl, c_7, by rw [e1]; rfl, by rw [e1]; exact q_9⟩
 ·
  refine skt ?_
  refine sr ?_
  refine bd' S39 rfl rfl rfl ?_
  refine sa Tryz.sizeOf39 rfl rfl rfl rfl rfl .head ?_
  refine nl ?_
  refine drW (.tail .head) ?_
  exact rC rfl Tryz.isAgg39 Tryz.sizeOf39 rfl .head rfl ler (fun _ _ h => h) ⟨rfl, rfl, .none, by rw [Tr.at_ge (by omega)]; rfl, by rw [Tr.at_ge (by omega)]; exact .none H⟩
theorem m_textOf {H : Fz} {L : Own} {c : TC} {T : Tr} (hT : TreeAt H c T) :
  Fn Tryz.prog 72 [.agg (c.cells T).toArray] H L (fun v H' L' => L = L' ∧ ∃ p, v = .pointer p ∧ TextAt H' T p) := by
 refine Fn.mk Tryz.call72 Tryz.func72 rfl Tryz.ntmps72 rfl ?_
 refine sr ?_
 refine bx rfl rfl rfl (fun b_1 => ?_)
 refine asg rfl rfl ?_
 refine nl ?_
 refine sq ?_
 refine sr ?_
 refine fa0 F39_2 rfl rfl ?_
 refine ld (Says.own .head) Tryz.isAgg4 rfl (Nat.zero_add _).symm rfl rfl ?_
 refine nl ?_
 refine cb rfl (fun h5 => ?_) (fun h5 => ?_)
 ·
  have hb := h5
  refine sr ?_
  refine asg rfl rfl ?_
  refine nl ?_
  refine drW .head ?_
  exact rT rfl rfl (Fz.le.refl _) (fun _ _ h => h) ⟨rfl, none, rfl, ⟨hb.symm, fun ad h => by cases h⟩⟩
 ·
  have hb := h5
  refine skt ?_
  refine sr ?_
  refine fa0 F39_1 rfl rfl ?_
  refine ld (Says.own .head) Tryz.isAgg22 rfl (Nat.zero_add _).symm rfl rfl ?_
  refine cbS Tryz.underlying22 Tryz.underlying5 Tryz.underlying9 rfl hT.s rfl rfl ?_
  refine al Tryz.zeroValue9 rfl rfl (fun b_2 => ?_)
  refine st Tryz.sizeOf9 rfl rfl rfl rfl .head ?_
  refine nl ?_
  refine sr ?_
  refine asg rfl rfl ?_
  refine nl ?_
  refine drW (.tail .head) ?_
  refine frW (Row.whole (size := 1) (m := 1) rfl (by decide)) .head (fun H2 hle2 hz => ?_)
  have hz2 : H2.at b_2 0 [.string ⟨T.s.toArray⟩] := by
   rcases hz with ⟨h, _⟩ | ⟨g, h, h2⟩
   · cases h
   · cases h; exact h2
  exact rT rfl rfl hle2 (fun _ _ h => h) ⟨rfl, some ⟨b_2, 0, none⟩, rfl, ⟨hb.symm, fun ad h => ⟨b_2, (Option.some.inj h).symm, hz2⟩⟩⟩
theorem m_octetsOf {H : Fz} {L : Own} {c : TC} {T : Tr} (hT : TreeAt H c T) :
  Fn Tryz.prog 90 [.agg (c.cells T).toArray] H L (fun v H' L' => L = L' ∧ ∃ a c', v = .slice a (sT T).length c' ∧ OctAt H' T a c') := by
 refine Fn.mk Tryz.call90 Tryz.func90 rfl Tryz.ntmps90 rfl ?_
 refine sr ?_
 refine bx rfl rfl rfl (fun b_1 => ?_)
 refine asg rfl rfl ?_
 refine nl ?_
 refine sq ?_
 refine sr ?_
 refine fa0 F39_2 rfl rfl ?_
 refine ld (Says.own .head) Tryz.isAgg4 rfl (Nat.zero_add _).symm rfl rfl ?_
 refine nl ?_
 refine cb rfl (fun h4 => ?_) (fun h4 => ?_)
 ·
  have hb := h4
  refine sr ?_
  refine asg rfl rfl ?_
  refine nl ?_
  refine drW .head ?_
  have e0 : sT T = [] := by simp [sT, hb]
  exact rT rfl rfl (Fz.le.refl _) (fun _ _ h => h) ⟨rfl, none, 0, by rw [e0]; rfl, ⟨by rw [e0]; exact .nil _, hb.symm⟩⟩
 ·
  have hb := h4
  refine skt ?_
  refine sr ?_
  refine bs' L22 rfl rfl rfl rfl (fun b_2 => ?_)
  refine fa0 F39_1 rfl rfl ?_
  refine ld (Says.own (.tail .head)) Tryz.isAgg22 rfl (Nat.zero_add _).symm rfl rfl ?_
  have hbl := hT.s.len
  refine ap (news := bytesOf T.s) Tryz.underlying22 I5 rfl rfl (Row.whole (e := 5) (size := 1) (m := 0) (ds := []) rfl (by decide)) (fun _ => .head) (src_bytes Tryz.underlying22 hT.s rfl) (by omega) (by unfold maxLen; omega) rfl (fun a8 c8 N8 r8 z8 => ?_)
  refine asg rfl rfl ?_
  refine nl ?_
  refine drW (.tail .head) ?_
  have e0 : sT T = T.s := by simp [sT, hb]
  simp only [List.nil_append, Nat.zero_add] at r8
  refine frW r8 .head (fun H2 hle2 hz => ?_)
  exact rT rfl rfl hle2 (fun _ _ h => h) ⟨rfl, a8, c8, by rw [e0, Nat.zero_add], ⟨by rw [e0]; exact BytesAt.row hz r8 (by have := hT.s.big; exact this), by rw [hb]; cases ha : a8 with | none => exact absurd (z8.1 ha).1 (by simp) | some _ => rfl⟩⟩
theorem m_sixteen {H : Fz} {L : Own} {a : Option Addr} {c : Nat} {x : List UInt8} (hx : BytesAt H a c x) :
  Fn Tryz.prog 70 [.slice a x.length c] H L (fun v H' L' => H = H' ∧ L = L' ∧ v = .agg (u16 x).toArray) := by
 refine Fn.mk Tryz.call70 Tryz.func70 rfl Tryz.ntmps70 rfl ?_
 refine sr ?_
 refine al Tryz.zeroValue72 rfl rfl (fun b_1 => ?_)
 refine nl ?_
 refine sr ?_
 refine sl16 Tryz.runUnderlying72 Tryz.sizeOf5 rfl rfl ?_
 refine mv rfl rfl ?_
 refine cpB2 Tryz.underlying22 (by kernel_rfl) rfl rfl (Row.whole (e := 72) (size := 1) (m := 16) (ds := reps [.int .u8 0] 16) rfl (by decide)) (fun _ => .head) hx rfl rfl (fun N5 r5 => ?_)
 rw [show (reps [Value.int .u8 0] 16 : List Value) = reps [Value.int .u8 0] 16 from rfl, row16] at r5
 obtain ⟨cs, rfl, hcs⟩ : ∃ cs, N5 = [(b_1, .cells cs 72 (0, 0))] ∧ cs = (u16 x).toArray := by
  rcases r5.2 with ⟨h, _⟩ | ⟨g, cur, h1, h2, _, _, h3, h4⟩
  · cases h
  ·
   cases h1
   refine ⟨cur, h2, ?_⟩
   apply Array.ext'
   rw [u16_eq]
   have h5 : cur.toList.length = 16 := by simpa using h3
   rw [List.take_of_length_le (by omega)] at h4
   exact h4
 subst hcs
 refine nl ?_
 refine sr ?_
 refine la (Says.own .head) Tryz.isAgg72 Tryz.sizeOf72 rfl (Nat.zero_add _).symm rfl rfl ?_
 refine sa Tryz.sizeOf72 rfl rfl rfl rfl rfl .head ?_
 refine nl ?_
 exact rC rfl Tryz.isAgg72 Tryz.sizeOf72 rfl .head rfl (Fz.le.refl _) (fun _ _ h => h) ⟨rfl, rfl, rfl⟩
end Go.Sx

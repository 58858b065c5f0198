import Derived.Test.YtdjfaejkhpifhaaGreatDoorSxTab
import Derived.Test.YtdjfaejkhpifhaaGreatDoorSA
import Derived.Test.YtdjfaejkhpifhaaGreatDoorLibF
import Derived.KernelRfl
set_option linter.unusedVariables false
set_option linter.unusedSimpArgs false
set_option maxRecDepth 100000
set_option maxHeartbeats 20000000
namespace Go.Sx
open Go.Proofs
theorem t_set {H : Fz} {L : Own} {b T off : Nat} {cs : List Value} {m : Option Nat} {kvs : List KV} {N : Chunk} {k : Int} {v : Value} (hm : MapC m kvs N) (hc : nth cs off = some (.map m)) :
  Fn Tryz.prog 79 [.pointer (some ⟨b, off, none⟩), .int .u32 k, v] H (N :: [(b, .cells cs.toArray T (0, 0))] :: L)
   (fun _ H' L' => H = H' ∧ ∃ g cs', setAt cs off (.map (some g)) = some cs' ∧ L' = [(g, mapObj (putKv kvs k v))] :: [(b, .cells cs'.toArray T (0, 0))] :: L) := by
 refine Fn.mk Tryz.call79 Tryz.func79 rfl Tryz.ntmps79 rfl ?_
 refine sq ?_
 refine sr ?_
 refine mv rfl rfl ?_
 refine nc rfl rfl ?_
 refine fa F63_0 rfl rfl ?_
 refine ld (Says.own (.tail .head)) Tryz.isAgg61 rfl (Nat.zero_add _).symm hc rfl ?_
 refine emn Tryz.underlying61 rfl rfl ?_
 refine nl ?_
 refine cb rfl (fun h10 => ?_) (fun h10 => ?_)
 ·
  obtain rfl : m = none := by simpa using h10
  obtain ⟨_, rfl, rfl⟩ | ⟨g, h0, _⟩ := hm
  ·
   refine rg ?_
   refine mv rfl rfl ?_
   refine mkm rfl (fun g => ?_)
   refine nc rfl rfl ?_
   refine fa F63_0 rfl rfl ?_
   obtain ⟨cs', hs⟩ := setAt_some (.map (some g)) hc
   refine st Tryz.sizeOf61 rfl rfl rfl hs (.tail (.tail .head)) ?_
   refine nN ?_
   refine Nt ?_
   refine rg ?_
   refine mv rfl rfl ?_
   refine nc rfl rfl ?_
   refine fa F63_0 rfl rfl ?_
   refine ld (Says.own (.tail (.tail .head))) Tryz.isAgg61 rfl (Nat.zero_add _).symm (nth_setAt hs) rfl ?_
   refine mv rfl rfl ?_
   refine mv rfl rfl ?_
   refine mup Tryz.underlying61 Tryz.underlying55 rfl rfl rfl .head ?_
   refine nN ?_
   refine drN (.tail .head) ?_
   exact fun _ _ hA hw => rn rfl (Fz.le.refl _) ⟨rfl, g, cs', hs, rfl⟩ hA hw
  · cases h0
 ·
  obtain ⟨rfl, _⟩ | ⟨g, rfl, rfl⟩ := hm
  · simp at h10
  ·
   refine skN ?_
   refine Nt ?_
   refine rg ?_
   refine mv rfl rfl ?_
   refine nc rfl rfl ?_
   refine fa F63_0 rfl rfl ?_
   refine ld (Says.own (.tail .head)) Tryz.isAgg61 rfl (Nat.zero_add _).symm hc rfl ?_
   refine mv rfl rfl ?_
   refine mv rfl rfl ?_
   refine mup Tryz.underlying61 Tryz.underlying55 rfl rfl rfl .head ?_
   refine nN ?_
   exact fun _ _ hA hw => rn rfl (Fz.le.refl _) ⟨rfl, g, cs, setAt_same hc, rfl⟩ hA hw
theorem t_each {H : Fz} {L : Own} {b o j : Nat} {cs : List Value} {m : Option Nat} {kvs : List KV} {lf : Nat} {fi cp : Array Value} {I : Nat → Fz → Chunk → Prop} {X0 : Chunk}
  (hb : H.at b o cs) (hj : nth cs j = some (.map m)) (hm : MapF H m kvs) (hl : kvs.length ≤ 1000000000000) (hIm : ∀ i H1 H2 X, H1.le H2 → I i H1 X → I i H2 X) (hI0 : I 0 H X0)
  (hstep : ∀ i k v (H1 : Fz) (X : Chunk) (L1 : Own), (sortKv kvs)[i]? = some (k, v) → H.le H1 → I i H1 X → Fn Tryz.prog lf (fi.toList ++ [.int .u32 k, v] ++ cp.toList) H1 (X :: L1) (fun _ H' L' => ∃ X', L' = X' :: L1 ∧ I (i + 1) H' X')) :
  Fn Tryz.prog 85 [.pointer (some ⟨b, o + j, none⟩), .func (.func lf) fi cp] H (X0 :: L) (fun _ H' L' => ∃ X', L' = X' :: L ∧ I kvs.length H' X') := by
 refine Fn.mk Tryz.call85 Tryz.func85 rfl Tryz.ntmps85 rfl ?_
 refine sq ?_
 refine sr ?_
 refine mv rfl rfl ?_
 refine nc rfl rfl ?_
 refine fa F63_0 rfl rfl ?_
 refine ld (Says.fz hb) Tryz.isAgg61 rfl rfl hj rfl ?_
 refine lmn Tryz.underlying61 rfl hm rfl ?_
 refine eq' rfl rfl rfl ?_
 refine nl ?_
 refine cd rfl (fun h13 => ?_) (fun h13 => ?_)
 ·
  have e0 : kvs.length = 0 := by omega
  exact r0 rfl ler (fun _ _ h => h) ⟨X0, rfl, by rw [e0]; exact hI0⟩
 ·
  obtain ⟨rfl, rfl⟩ | ⟨g, rfl, hg⟩ := hm
  · exact absurd rfl h13
  have hm : MapF H (some g) kvs := .inr ⟨g, rfl, hg⟩
  refine skt ?_
  refine sr ?_
  refine mv rfl rfl ?_
  refine nc rfl rfl ?_
  refine fa F63_0 rfl rfl ?_
  refine ld (Says.fz hb) Tryz.isAgg61 rfl rfl hj rfl ?_
  refine lmn Tryz.underlying61 rfl hm rfl ?_
  refine mks (m := 0) (c := kvs.length) (zs := [.int .u32 0]) Tryz.underlying88 I55 rfl rfl rfl rfl rfl (by omega) (by omega) (by unfold maxLen; omega) rfl (fun b19 N19 r19 => ?_)
  refine al Tryz.zeroValue88 rfl rfl (fun b_1 => ?_)
  refine st Tryz.sizeOf88 rfl rfl rfl rfl .head ?_
  refine nl ?_
  refine sq ?_
  refine sr ?_
  refine mv rfl rfl ?_
  refine nc rfl rfl ?_
  refine fa F63_0 rfl rfl ?_
  refine ld (Says.fz hb) Tryz.isAgg61 rfl rfl hj rfl ?_
  refine rgm Tryz.underlying61 rfl hg rfl (fun it => ?_)
  refine nl ?_
  refine bl (lp kvs.length (fun k l' H' L' => ∃ (seen : Array Nat) (a : Option Addr) (c : Nat) (N : Chunk), [(0, .pointer (some ⟨b, o + j, none⟩)), (1, .func (.func lf) fi cp), (4, .pointer (some ⟨b_1, 0, none⟩)), (24, .pointer (some ⟨it, 0, none⟩))] = l' ∧ H = H' ∧ [(it, .mapIter (some g) kvs.length seen kvs.length)] :: [(b_1, .cells [.slice a k c].toArray 88 (0, 0))] :: N :: X0 :: L = L' ∧ Row 55 1 a k c (u32s (seen.toList.map fun i => ((keysOf kvs)[i]?).getD 0)) N ∧ seen.toList.Nodup ∧ (∀ x ∈ seen.toList, x < kvs.length) ∧ seen.size = k) [(0, .pointer (some ⟨b, o + j, none⟩)), (1, .func (.func lf) fi cp), (4, .pointer (some ⟨b_1, 0, none⟩)), (24, .pointer (some ⟨it, 0, none⟩))] (.of ⟨rfl, rfl, rfl, rfl, trivial⟩) ⟨#[], _, _, _, rfl, rfl, rfl, r19, List.nodup_nil, (fun x hx => by simp at hx), rfl⟩ (fun k l' H' L' hk le0 hI => ?_))
  obtain ⟨seen, a, c, N, rfl, rfl, rfl, hr, hnd, hlt, hsz⟩ := hI
  refine sr ?_
  refine nxt rfl hg (fun i => .head) rfl (fun hall => ?_) (fun i key v hi hns => ?_)
  ·
   have hp : seen.toList.Perm (List.range kvs.length) := perm_range hnd hlt (fun i hi => by simpa using hall i hi)
   obtain rfl : k = kvs.length := by have := hp.length_eq; simp at this; omega
   refine extr rfl rfl rfl ?_
   refine nl ?_
   refine sq ?_
   refine cF rfl ?_
   refine exX ?_
   refine XT ?_
   refine XT ?_
   refine Xb ?_
   refine Nt ?_
   refine sr ?_
   refine ld (Says.own (.tail .head)) Tryz.isAgg88 rfl (Nat.zero_add _).symm rfl rfl ?_
   refine mki Tryz.underlying88 rfl rfl ?_
   refine mkf rfl rfl ?_
   refine drL .head ?_
   refine tf (.tail .head) ?_
   refine cl rfl rfl rfl (k_sort hr (by omega)) rfl (fun v H1 L1 hle1 hR => ?_)
   obtain ⟨rfl, N2, rfl, hr2⟩ := hR
   rw [srt_of_seen hp] at hr2
   refine frL hr2 .head (fun H2 hle2 hz => ?_)
   obtain ⟨_, hz0, _⟩ | ⟨g2, rfl, hz⟩ := hz
   · exact absurd (by omega) h13
   refine nl ?_
   refine sr ?_
   refine ld (Says.own .head) Tryz.isAgg88 rfl (Nat.zero_add _).symm rfl rfl ?_
   refine ls Tryz.runUnderlying88 rfl rfl ?_
   refine mv rfl rfl ?_
   refine nl ?_
   refine fr kvs.length (fun k l' H' L' => ∃ X : Chunk, [(0, .pointer (some ⟨b, o + j, none⟩)), (1, .func (.func lf) fi cp), (37, .slice (some ⟨g2, 0, none⟩) kvs.length c), (38, .int .i64 (kvs.length : Int))] = l' ∧ [(b_1, .cells [.slice (some ⟨g2, 0, none⟩) kvs.length c].toArray 88 (0, 0))] :: X :: L = L' ∧ H2.le H' ∧ I k H' X) [(0, .pointer (some ⟨b, o + j, none⟩)), (1, .func (.func lf) fi cp), (37, .slice (some ⟨g2, 0, none⟩) kvs.length c), (38, .int .i64 (kvs.length : Int))] (fun k l' H' L' h => ?_) (by omega) rfl (.of ⟨rfl, rfl, rfl, rfl, trivial⟩) ⟨_, rfl, rfl, Fz.le.refl _, hIm _ _ _ _ hle2 hI0⟩ rfl rfl rfl rfl rfl (fun k l' H' L' hk le1 hI => ?_) (fun l' H' L' le2 hI => ?_)
   · obtain ⟨X, rfl, _⟩ := h; exact ⟨rfl, rfl, rfl, rfl⟩
   ·
    obtain ⟨X, rfl, rfl, le3, hI⟩ := hI
    obtain ⟨key, v, hS, hlk, hnt⟩ := sortKv_get hk
    refine sr ?_
    refine ix Tryz.runUnderlying88 Tryz.sizeOf55 rfl rfl rfl hk rfl ?_
    refine ld (Says.fz (hz.mono le3)) Tryz.isAgg55 rfl (by omega) hnt rfl ?_
    refine asg rfl rfl ?_
    refine nl ?_
    refine rg ?_
    refine mv rfl rfl ?_
    refine mv rfl rfl ?_
    refine mv rfl rfl ?_
    refine nc rfl rfl ?_
    refine fa F63_0 rfl rfl ?_
    refine ld (Says.fz (hb.mono (hle2.trans le3))) Tryz.isAgg61 rfl rfl hj rfl ?_
    refine mv rfl rfl ?_
    refine lkp Tryz.underlying61 Tryz.underlying55 rfl rfl ((hle2.trans le3).blk _ _ hg) hlk rfl ?_
    refine tf (.tail .head) ?_
    refine cl rfl rfl rfl (hstep k key v _ X _ hS (hle2.trans le3) hI) rfl (fun v_ H3 L3 hle3 hR => ?_)
    obtain ⟨X', rfl, hI'⟩ := hR
    refine nN ?_
    refine Nb ?_
    refine tfN (.tail .head) ?_
    refine fun a w hA hw => ⟨_, _, _, hA.sub ?_, le3.trans hle3, hw, _, rfl, X', rfl, rfl, le3.trans hle3, hI'⟩
    exact (.of ⟨rfl, rfl, rfl, rfl, rfl, trivial⟩)
   ·
    obtain ⟨X, rfl, rfl, le3, hI⟩ := hI
    refine toNn ?_
    refine drN .head ?_
    exact fun _ _ hA hw => rn rfl (hle2.trans le3) ⟨X, rfl, hI⟩ hA hw
  ·
   have hks2 : (seen.push i).toList.map (fun i => ((keysOf kvs)[i]?).getD 0) = (seen.toList.map fun i => ((keysOf kvs)[i]?).getD 0) ++ [key] := by simp [keysOf_get hi]
   have hnd2 : (seen.push i).toList.Nodup := by rw [Array.toList_push, List.nodup_append]; exact ⟨hnd, by simp, fun x hx y hy => by simp at hy; subst hy; rintro rfl; exact hns (by simpa using hx)⟩
   have hlt2 : ∀ x ∈ (seen.push i).toList, x < kvs.length := by intro x hx; rw [Array.toList_push, List.mem_append] at hx; rcases hx with hx | hx; exact hlt x hx; simp at hx; subst hx; exact lt_of_get hi
   refine extr rfl rfl rfl ?_
   refine nl ?_
   refine sq ?_
   refine cT rfl ?_
   refine skt ?_
   refine bl ?_
   refine sr ?_
   refine ent rfl hg .head hi rfl ?_
   refine extr rfl rfl rfl ?_
   refine asg rfl rfl ?_
   refine nl ?_
   refine rg ?_
   refine ld (Says.own (.tail .head)) Tryz.isAgg88 rfl (Nat.zero_add _).symm rfl rfl ?_
   refine mv rfl rfl ?_
   refine bs' L88 rfl rfl rfl rfl (fun b_2 => ?_)
   have hkl : k < kvs.length := by have := nodup_bound kvs.length (seen.push i).toList hnd2 hlt2; simp at this; omega
   refine ap (news := [.int .u32 key]) Tryz.underlying88 I55 rfl rfl hr (fun _ => (.tail (.tail (.tail .head)))) (src_says Tryz.underlying88 rfl (fun _ => Says.own .head) (by intro u hu; simp at hu; subst hu; rfl)) (by omega) (by unfold maxLen; omega) rfl (fun a32 c32 N32 r32 z32 => ?_)
   rw [u32s_snoc] at r32
   refine st Tryz.sizeOf88 rfl rfl rfl rfl (.tail (.tail .head)) ?_
   refine nN ?_
   refine Nb ?_
   refine drN .head ?_
   refine fun a w hA hw => ⟨by have := nodup_bound kvs.length (seen.push i).toList hnd2 hlt2; simp at this; omega, _, _, _, hA.sub ?_, Fz.le.refl _, hw, seen.push i, _, _, _, rfl, rfl, rfl, by rw [hks2]; exact r32, hnd2, hlt2, by simp [hsz]⟩
   exact (.of ⟨rfl, rfl, rfl, rfl, trivial⟩)
end Go.Sx

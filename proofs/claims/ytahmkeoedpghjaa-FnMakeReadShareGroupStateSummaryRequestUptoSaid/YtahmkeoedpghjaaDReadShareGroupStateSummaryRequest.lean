import Derived.Test.YtahmkeoedpghjaaBReadShareGroupStateSummaryRequest
import Derived.Test.YtahmkeoedpghjaaD0
import Derived.KernelRfl
set_option linter.unusedVariables false
set_option linter.unusedSimpArgs false
set_option maxRecDepth 100000
set_option maxHeartbeats 20000000
namespace Go.Sx
open Go.Proofs
theorem make_ReadShareGroupStateSummaryRequestTopicPartition {H : Fz} {L : Own} {c : TC} {T : Tr} (hT : TreeAt H c T) (hf : Fine T) :
    Fn Try.prog 178 [.agg (c.cells T).toArray] H L (fun v H' L' => L = L' ∧ ∃ cs : List Value, v = .agg cs.toArray ∧ At_ReadShareGroupStateSummaryRequestTopicPartition H' T cs) := by
  refine Fn.mk Try.call178 Try.func178 rfl Try.ntmps178 rfl ?_
  refine sr ?_
  refine bx rfl rfl rfl (fun b_1 => ?_)
  refine al Try.zeroValue157 rfl rfl (fun b_2 => ?_)
  refine nl ?_
  refine sr ?_
  refine al Try.zeroValue157 rfl rfl (fun b_3 => ?_)
  refine nl ?_
  refine sr ?_
  refine la (Says.own (.tail (.tail .head))) Try.isAgg39 Try.sizeOf39 rfl (Nat.zero_add _).symm rfl rfl ?_
  refine cl rfl rfl rfl (m_at (i := 0) hT) rfl (fun v H1 L1 hle hR => ?_)
  obtain ⟨rfl, rfl, c7, rfl, g7⟩ := hR
  refine fc C39_0 rfl rfl rfl ?_
  refine cv Try.runUnderlying2 Try.runUnderlying21 rfl rfl rfl ?_
  refine fa0 F157_0 rfl rfl ?_
  refine st Try.sizeOf21 rfl rfl rfl rfl .head ?_
  refine nl ?_
  refine sr ?_
  refine la (Says.own (.tail (.tail .head))) Try.isAgg39 Try.sizeOf39 rfl (Nat.zero_add _).symm rfl rfl ?_
  refine cl rfl rfl rfl (m_at (i := 1) hT) rfl (fun v H1 L1 hle hR => ?_)
  obtain ⟨rfl, rfl, c12, rfl, g12⟩ := hR
  refine fc C39_0 rfl rfl rfl ?_
  refine cv Try.runUnderlying2 Try.runUnderlying21 rfl rfl rfl ?_
  refine fa0 F157_1 rfl rfl ?_
  refine st Try.sizeOf21 rfl rfl rfl rfl .head ?_
  refine nl ?_
  refine sq ?_
  refine sr ?_
  refine fa0 F39_4 rfl rfl ?_
  refine ld (Says.own (.tail (.tail .head))) Try.isAgg37 rfl (Nat.zero_add _).symm rfl rfl ?_
  refine ls Try.runUnderlying37 rfl rfl ?_
  refine mv rfl rfl ?_
  refine nl ?_
  refine nulC2 ?_
  have hun := hf.un
  refine fr (T.u.length) (fun q l' H' L' => ∃ (m : Option Nat), ∃ (kvs : List KV), ∃ (M : Chunk), [(2, .pointer (some ⟨b_2, 0, none⟩)), (3, .pointer (some ⟨b_3, 0, none⟩)), (17, .slice c.ua T.u.length c.uc), (18, .int .i64 (T.u.length : Int))] = l' ∧ M :: [(b_3, .cells [.int .i32 (IntKind.i32.wrap (T.at 0).n), .int .i32 (IntKind.i32.wrap (T.at 1).n), .map m].toArray 157 (0, 0))] :: [(b_2, .cells [.int .i32 0, .int .i32 0, .map none].toArray 157 (0, 0))] :: [(b_1, .cells (c.cells T).toArray 39 (0, 0))] :: L = L' ∧ MapC m kvs M ∧ KvTo H' (T.u.take q) kvs) [(2, .pointer (some ⟨b_2, 0, none⟩)), (3, .pointer (some ⟨b_3, 0, none⟩)), (17, .slice c.ua T.u.length c.uc), (18, .int .i64 (T.u.length : Int))] (fun q l' H' L' h => ?_) (by omega) rfl (.cons rfl (.cons rfl (.cons rfl (.cons rfl (.nil _))))) ⟨none, [], [], rfl, rfl, MapC.nil, (KvTo.nil _)⟩ rfl rfl rfl rfl rfl (fun q l' H' L' hq le_6 hI => ?_) (fun l' H' L' le_7 hI => ?_)
  · obtain ⟨m, kvs, M, rfl, _⟩ := h; exact ⟨rfl, rfl, rfl, rfl⟩
  · skip
    obtain ⟨m, kvs, M, rfl, rfl, pq0, pq1⟩ := hI
    refine sr ?_
    obtain ⟨b_8, o_9, e_10, g_11⟩ := (hT.u.mono le_6).at_ (ne_nil_of_lt hq)
    obtain ⟨c_12, q_13, q_14⟩ := g_11 q hq
    refine ix2 Try.runUnderlying37 Try.sizeOf63 rfl e_10 rfl rfl hq rfl ?_
    refine la (Says.fz q_13) Try.isAgg63 Try.sizeOf63 rfl (Nat.add_zero _).symm rfl rfl ?_
    refine al Try.zeroValue63 rfl rfl (fun b_15 => ?_)
    refine sa Try.sizeOf63 rfl rfl rfl rfl rfl .head ?_
    refine nl ?_
    refine rg ?_
    refine fa0 F157_2 rfl rfl ?_
    refine fa0 F63_0 rfl rfl ?_
    refine ld (Says.own .head) Try.isAgg60 rfl (Nat.zero_add _).symm rfl rfl ?_
    refine fa0 F63_1 rfl rfl ?_
    refine ld (Says.own .head) Try.isAgg22 rfl (Nat.zero_add _).symm rfl rfl ?_
    refine tf (.tail (.tail .head)) ?_
    refine tf (.tail (.tail .head)) ?_
    refine cl rfl rfl rfl (t_set (cs := [.int .i32 (IntKind.i32.wrap (T.at 0).n), .int .i32 (IntKind.i32.wrap (T.at 1).n), .map m]) (off := 2) pq0 rfl) rfl (fun v H1 L1 hle hR => ?_)
    obtain ⟨rfl, g28, cs28, hs28, rfl⟩ := hR
    obtain rfl : [.int .i32 (IntKind.i32.wrap (T.at 0).n), .int .i32 (IntKind.i32.wrap (T.at 1).n), .map (some g28)] = cs28 := Option.some.inj hs28
    refine nN ?_
    refine Nb ?_
    refine drN (.tail (.tail .head)) ?_
    refine fun a_ w_ hA hw => ⟨_, _, _, hA.sub ?_, le_6, hw, _, rfl, _, _, [(g28, _)], rfl, rfl, (.inr ⟨g28, rfl, rfl⟩), (KvTo.put hf.u (List.getElem?_eq_getElem hq) pq1 (⟨⟨_, _, rfl, q_14.val⟩, q_14.lo, q_14.hi⟩))⟩
    exact (.cons rfl (.cons rfl (.cons rfl (.cons rfl (.cons rfl (.nil _))))))
  · skip
    obtain ⟨m, kvs, M, rfl, rfl, pq0, pq1⟩ := hI
    refine toWp ?_
    rw [List.take_length] at pq1
    refine frMW pq0 .head (fun H3 hle3 hmf => ?_)
    have hft := KvTo.at_ hf.u (pq1.mono hle3) hmf
    refine sr ?_
    refine la (Says.own .head) Try.isAgg157 Try.sizeOf157 rfl (Nat.zero_add _).symm rfl rfl ?_
    refine sa Try.sizeOf157 rfl rfl rfl rfl rfl (.tail .head) ?_
    refine nl ?_
    refine drW .head ?_
    refine drW (.tail .head) ?_
    exact rC rfl Try.isAgg157 Try.sizeOf157 rfl .head rfl (le_7.trans hle3) (fun _ _ h => h) ⟨rfl, _, rfl, ⟨m, rfl, hft⟩⟩
theorem make_ReadShareGroupStateSummaryRequestTopic {H : Fz} {L : Own} {c : TC} {T : Tr} (hT : TreeAt H c T) (hf : Fine T) :
    Fn Try.prog 153 [.agg (c.cells T).toArray] H L (fun v H' L' => L = L' ∧ ∃ cs : List Value, v = .agg cs.toArray ∧ At_ReadShareGroupStateSummaryRequestTopic H' T cs) := by
  refine Fn.mk Try.call153 Try.func153 rfl Try.ntmps153 rfl ?_
  refine sr ?_
  refine bx rfl rfl rfl (fun b_1 => ?_)
  refine al Try.zeroValue151 rfl rfl (fun b_2 => ?_)
  refine nl ?_
  refine sr ?_
  refine al Try.zeroValue151 rfl rfl (fun b_3 => ?_)
  refine nl ?_
  refine sr ?_
  refine la (Says.own (.tail (.tail .head))) Try.isAgg39 Try.sizeOf39 rfl (Nat.zero_add _).symm rfl rfl ?_
  refine cl rfl rfl rfl (m_at (i := 0) hT) rfl (fun v H1 L1 hle hR => ?_)
  obtain ⟨rfl, rfl, c9, rfl, g9⟩ := hR
  refine fc C39_1 rfl rfl rfl ?_
  refine cl rfl rfl rfl (m_sixteen g9.s) rfl (fun v H1 L1 hle hR => ?_)
  obtain ⟨rfl, rfl, rfl⟩ := hR
  refine fa0 F151_0 rfl rfl ?_
  refine sa Try.sizeOf98 rfl rfl rfl rfl rfl .head ?_
  refine nl ?_
  refine sq ?_
  refine sr ?_
  refine la (Says.own (.tail (.tail .head))) Try.isAgg39 Try.sizeOf39 rfl (Nat.zero_add _).symm rfl rfl ?_
  refine cl rfl rfl rfl (m_at (i := 1) hT) rfl (fun v H1 L1 hle hR => ?_)
  obtain ⟨rfl, rfl, c14, rfl, g14⟩ := hR
  refine fc C39_2 rfl rfl rfl ?_
  refine nt rfl rfl ?_
  refine nl ?_
  refine cutT (fun l' H' L' => ∃ (a1 : Option Addr), ∃ (n1 : Nat), ∃ (c1 : Nat), [(1, .pointer (some ⟨b_1, 0, none⟩)), (2, .pointer (some ⟨b_2, 0, none⟩)), (3, .pointer (some ⟨b_3, 0, none⟩))] = l' ∧ [(b_3, .cells [ub (T.at 0).s 0, ub (T.at 0).s 1, ub (T.at 0).s 2, ub (T.at 0).s 3, ub (T.at 0).s 4, ub (T.at 0).s 5, ub (T.at 0).s 6, ub (T.at 0).s 7, ub (T.at 0).s 8, ub (T.at 0).s 9, ub (T.at 0).s 10, ub (T.at 0).s 11, ub (T.at 0).s 12, ub (T.at 0).s 13, ub (T.at 0).s 14, ub (T.at 0).s 15, .slice a1 n1 c1, .map none].toArray 151 (0, 0))] :: [(b_2, .cells [.int .u8 0, .int .u8 0, .int .u8 0, .int .u8 0, .int .u8 0, .int .u8 0, .int .u8 0, .int .u8 0, .int .u8 0, .int .u8 0, .int .u8 0, .int .u8 0, .int .u8 0, .int .u8 0, .int .u8 0, .int .u8 0, .slice none 0 0, .map none].toArray 151 (0, 0))] :: [(b_1, .cells (c.cells T).toArray 39 (0, 0))] :: L = L' ∧ n1 = (lT (T.at 1)).length ∧ ListAt H' (T.at 1) 3 At_ReadShareGroupStateSummaryRequestTopicPartition a1 c1) ?_ (fun l' H' L' le_7 hI => ?_)
  · skip
    refine cb rfl (fun h16 => ?_) (fun h16 => ?_)
    · skip
      have hnu : (T.at 1).nul = false := by simpa using h16
      have hlt : lT (T.at 1) = (T.at 1).l := lT_not hnu
      have hfl := (hf.at 1).len
      refine sr ?_
      refine la (Says.own (.tail (.tail .head))) Try.isAgg39 Try.sizeOf39 rfl (Nat.zero_add _).symm rfl rfl ?_
      refine cl rfl rfl rfl (m_at (i := 1) hT) rfl (fun v H1 L1 hle hR => ?_)
      obtain ⟨rfl, rfl, c18, rfl, g18⟩ := hR
      refine fc C39_3 rfl rfl rfl ?_
      refine ls Try.runUnderlying36 rfl rfl ?_
      refine mks (m := 0) (c := (T.at 1).l.length) (zs := [.int .i32 0, .int .i32 0, .map none]) Try.underlying149 I157 rfl rfl rfl rfl rfl (by omega) (by omega) (by unfold maxLen; omega) rfl (fun bm21 N21 r21 => ?_)
      refine fa0 F151_1 rfl rfl ?_
      refine st Try.sizeOf149 rfl rfl rfl rfl (.tail .head) ?_
      refine nl ?_
      refine sr ?_
      refine la (Says.own (.tail (.tail (.tail .head)))) Try.isAgg39 Try.sizeOf39 rfl (Nat.zero_add _).symm rfl rfl ?_
      refine cl rfl rfl rfl (m_at (i := 1) hT) rfl (fun v H1 L1 hle hR => ?_)
      obtain ⟨rfl, rfl, c24, rfl, g24⟩ := hR
      refine fc C39_3 rfl rfl rfl ?_
      refine ls Try.runUnderlying36 rfl rfl ?_
      refine mv rfl rfl ?_
      refine nl ?_
      refine fr ((T.at 1).l.length) (fun k l' H' L' => ∃ (a : Option Addr), ∃ (m : Nat), ∃ (c_ : Nat), ∃ (es : List (KE 3)), ∃ (N : Chunk), [(1, .pointer (some ⟨b_1, 0, none⟩)), (2, .pointer (some ⟨b_2, 0, none⟩)), (3, .pointer (some ⟨b_3, 0, none⟩)), (25, .slice c24.la (T.at 1).l.length c24.lc), (26, .int .i64 ((T.at 1).l.length : Int))] = l' ∧ N :: [(b_3, .cells [ub (T.at 0).s 0, ub (T.at 0).s 1, ub (T.at 0).s 2, ub (T.at 0).s 3, ub (T.at 0).s 4, ub (T.at 0).s 5, ub (T.at 0).s 6, ub (T.at 0).s 7, ub (T.at 0).s 8, ub (T.at 0).s 9, ub (T.at 0).s 10, ub (T.at 0).s 11, ub (T.at 0).s 12, ub (T.at 0).s 13, ub (T.at 0).s 14, ub (T.at 0).s 15, .slice a m c_, .map none].toArray 151 (0, 0))] :: [(b_2, .cells [.int .u8 0, .int .u8 0, .int .u8 0, .int .u8 0, .int .u8 0, .int .u8 0, .int .u8 0, .int .u8 0, .int .u8 0, .int .u8 0, .int .u8 0, .int .u8 0, .int .u8 0, .int .u8 0, .int .u8 0, .int .u8 0, .slice none 0 0, .map none].toArray 151 (0, 0))] :: [(b_1, .cells (c.cells T).toArray 39 (0, 0))] :: L = L' ∧ Row 157 3 a m c_ (es.flatMap fk) N ∧ m = es.length ∧ (∀ p : KE 3, p ∈ es → At_ReadShareGroupStateSummaryRequestTopicPartition H' p.2 (fk p)) ∧ es.map (·.2) = ((T.at 1).l.take k).map id ∧ a.isNone = false) [(1, .pointer (some ⟨b_1, 0, none⟩)), (2, .pointer (some ⟨b_2, 0, none⟩)), (3, .pointer (some ⟨b_3, 0, none⟩)), (25, .slice c24.la (T.at 1).l.length c24.lc), (26, .int .i64 ((T.at 1).l.length : Int))] (fun k l' H' L' h => ?_) (by omega) rfl (.cons rfl (.cons rfl (.cons rfl (.cons rfl (.cons rfl (.nil _)))))) ⟨some ⟨bm21, 0, none⟩, 0, _, [], N21, rfl, rfl, r21, rfl, (fun p hp => by cases hp), (by simp), rfl⟩ rfl rfl rfl rfl rfl (fun k l' H' L' hk le_10 hI => ?_) (fun l' H' L' le_11 hI => ?_)
      · obtain ⟨a, m, c_, es, N, rfl, _⟩ := h; exact ⟨rfl, rfl, rfl, rfl⟩
      · skip
        obtain ⟨a, m, c_, es, N, rfl, rfl, pk0, pk1, pk2, pk3, pk4⟩ := hI
        refine sr ?_
        obtain ⟨b_12, o_13, e_14, g_15⟩ := (g24.l.mono le_10).at_ (ne_nil_of_lt hk)
        obtain ⟨c_16, q_17, q_18⟩ := g_15 k hk
        refine ix2 Try.runUnderlying36 Try.sizeOf39 rfl e_14 rfl rfl hk rfl ?_
        refine la (Says.fz q_17) Try.isAgg39 Try.sizeOf39 rfl (Nat.add_zero _).symm rfl rfl ?_
        refine al Try.zeroValue39 rfl rfl (fun b_19 => ?_)
        refine sa Try.sizeOf39 rfl rfl rfl rfl rfl .head ?_
        refine nl ?_
        refine rgD 7 (.keep (.skip (.keep (.keep (.keep .nil))))) mixed ?_
        refine dT 0 rfl rfl rfl (by kernel_rfl) (fun _ _ _ h => h) (y_fa0 F151_1 rfl) (.keep (.skip (.keep (.keep (.keep .nil))))) (Fz.le.refl _) ?_
        refine dT 1 rfl rfl rfl (by kernel_rfl) (fun _ _ _ h => h) (y_ld (Says.own (.tail .head)) Try.isAgg149 rfl (Nat.zero_add _).symm rfl) (.keep (.skip (.keep (.keep (.keep .nil))))) (Fz.le.refl _) ?_
        refine dT 2 rfl rfl rfl (by kernel_rfl) (fun _ _ _ h => h) (y_la (Says.own .head) Try.isAgg39 Try.sizeOf39 rfl (Nat.zero_add _).symm rfl) (.keep (.skip (.keep (.keep (.keep .nil))))) (Fz.le.refl _) ?_
        refine dE 3 (by kernel_rfl) rfl ?_
        refine cl rfl rfl rfl (make_ReadShareGroupStateSummaryRequestTopicPartition q_18 ((hf.at 1).el (List.getElem_mem hk))) rfl (fun v H1 L1 le_20 hR => ?_)
        obtain ⟨rfl, cs34, rfl, g34⟩ := hR
        have ho34 := At_ReadShareGroupStateSummaryRequestTopicPartition.ok g34
        have gg34 := g34
        obtain ⟨mte, rfl, he0⟩ := g34
        refine dN (.keep (.skip (.keep (.keep (.keep .nil))))) le_20 ?_
        refine dE 4 (by kernel_rfl) rfl ?_
        refine bs' L149 rfl rfl rfl rfl (fun b_21 => ?_)
        refine dN (.skip (.keep (.skip (.keep (.keep (.keep .nil)))))) le_20 ?_
        refine dE 5 (by kernel_rfl) rfl ?_
        have hmk : m = k := by have h1 := congrArg List.length pk3; rw [List.length_map, List.length_map, List.length_take] at h1; omega
        refine ap (news := fk ((⟨_, ho34⟩, (T.at 1).l[k]) : KE 3)) Try.underlying149 I157 rfl rfl pk0 (fun _ => (.tail (.tail .head))) (src_says Try.underlying149 rfl (fun _ => Says.own .head) (fk_one _)) (by omega) (by unfold maxLen; omega) rfl (fun a36 c36 N36 r36 z36 => ?_)
        rw [flatMap_snoc'] at r36
        have hin : a36.isNone = false := by cases a36 with | none => have := z36.1 rfl; omega | some _ => rfl
        refine dN (.skip (.keep (.skip (.keep (.keep (.keep .nil)))))) le_20 ?_
        refine dT 6 rfl rfl rfl (by kernel_rfl) (fun _ _ _ h => h) (y_fa0 F151_1 rfl) (.skip (.keep (.skip (.keep (.keep (.keep .nil)))))) le_20 ?_
        refine dE 7 (by kernel_rfl) rfl ?_
        refine st Try.sizeOf149 rfl rfl rfl rfl (.tail (.tail (.tail .head))) ?_
        refine dNk (by kernel_rfl) ?_
        refine dD (by kernel_rfl) ?_
        refine Nb ?_
        refine drN .head ?_
        refine drN .head ?_
        refine fun a_ w_ hA hw => ⟨_, _, _, hA.sub ?_, (le_10.trans le_20), hw, _, rfl, a36, _, c36, (es ++ [((⟨_, ho34⟩, (T.at 1).l[k]) : KE 3)]), N36, rfl, rfl, r36, (by simp; omega), (fun p hp => (mem_snoc hp).elim (fun h => At_ReadShareGroupStateSummaryRequestTopicPartition.mono _ _ _ _ le_20 (pk2 p h)) (fun h => h ▸ At_ReadShareGroupStateSummaryRequestTopicPartition.mono _ _ _ _ (Fz.le.refl _) gg34)), (map_take_snoc hk pk3), hin⟩
        exact (.cons rfl (.cons rfl (.cons rfl (.cons rfl (.cons rfl (.cons rfl (.nil _)))))))
      · skip
        obtain ⟨a, m, c_, es, N, rfl, rfl, pk0, pk1, pk2, pk3, pk4⟩ := hI
        refine toNn ?_
        have hm : m = (T.at 1).l.length := by have h1 := congrArg List.length pk3; rw [List.length_map, List.length_map, List.take_length] at h1; omega
        have hfe : es.map (·.2) = (T.at 1).l := by rw [pk3, List.take_length, List.map_id]
        refine frN pk0 .head (fun H2 hle2 hfz => ?_)
        have hrw := RowsAt.row (R := At_ReadShareGroupStateSummaryRequestTopicPartition) hfz pk1 pk0.le.1 (fun p hp => At_ReadShareGroupStateSummaryRequestTopicPartition.mono _ _ _ _ hle2 (pk2 p hp))
        rw [hfe, ← hlt] at hrw
        have hnl : m = (lT (T.at 1)).length := by rw [hlt]; exact hm
        have hla : ListAt H2 (T.at 1) 3 At_ReadShareGroupStateSummaryRequestTopicPartition a c_ := ⟨hrw, by rw [pk4, hnu]⟩
        refine fun a_ w_ hA hw => ⟨_, _, _, hA.sub ?_, (le_11.trans hle2), hw, a, m, c_, rfl, rfl, hnl, hla⟩
        exact (.cons rfl (.cons rfl (.cons rfl (.nil _))))
    · skip
      have hnu : (T.at 1).nul = true := by simpa using h16
      refine skN ?_
      refine fun a_ w_ hA hw => ⟨_, _, _, hA.sub ?_, (Fz.le.refl _), hw, none, 0, 0, rfl, rfl, (by rw [lT_nul hnu]; rfl), (ListAt.none hnu)⟩
      exact (.cons rfl (.cons rfl (.cons rfl (.nil _))))
  · skip
    obtain ⟨a1, n1, c1, rfl, rfl, pj0, pj1⟩ := hI
    subst pj0
    have hf1 := pj1
    refine sq ?_
    refine sr ?_
    refine fa0 F39_4 rfl rfl ?_
    refine ld (Says.own (.tail (.tail .head))) Try.isAgg37 rfl (Nat.zero_add _).symm rfl rfl ?_
    refine ls Try.runUnderlying37 rfl rfl ?_
    refine mv rfl rfl ?_
    refine nl ?_
    refine nulC2 ?_
    have hun := hf.un
    refine fr (T.u.length) (fun q l' H' L' => ∃ (m : Option Nat), ∃ (kvs : List KV), ∃ (M : Chunk), [(2, .pointer (some ⟨b_2, 0, none⟩)), (3, .pointer (some ⟨b_3, 0, none⟩)), (40, .slice c.ua T.u.length c.uc), (41, .int .i64 (T.u.length : Int))] = l' ∧ M :: [(b_3, .cells [ub (T.at 0).s 0, ub (T.at 0).s 1, ub (T.at 0).s 2, ub (T.at 0).s 3, ub (T.at 0).s 4, ub (T.at 0).s 5, ub (T.at 0).s 6, ub (T.at 0).s 7, ub (T.at 0).s 8, ub (T.at 0).s 9, ub (T.at 0).s 10, ub (T.at 0).s 11, ub (T.at 0).s 12, ub (T.at 0).s 13, ub (T.at 0).s 14, ub (T.at 0).s 15, .slice a1 (lT (T.at 1)).length c1, .map m].toArray 151 (0, 0))] :: [(b_2, .cells [.int .u8 0, .int .u8 0, .int .u8 0, .int .u8 0, .int .u8 0, .int .u8 0, .int .u8 0, .int .u8 0, .int .u8 0, .int .u8 0, .int .u8 0, .int .u8 0, .int .u8 0, .int .u8 0, .int .u8 0, .int .u8 0, .slice none 0 0, .map none].toArray 151 (0, 0))] :: [(b_1, .cells (c.cells T).toArray 39 (0, 0))] :: L = L' ∧ MapC m kvs M ∧ KvTo H' (T.u.take q) kvs) [(2, .pointer (some ⟨b_2, 0, none⟩)), (3, .pointer (some ⟨b_3, 0, none⟩)), (40, .slice c.ua T.u.length c.uc), (41, .int .i64 (T.u.length : Int))] (fun q l' H' L' h => ?_) (by omega) rfl (.cons rfl (.cons rfl (.cons rfl (.cons rfl (.nil _))))) ⟨none, [], [], rfl, rfl, MapC.nil, (KvTo.nil _)⟩ rfl rfl rfl rfl rfl (fun q l' H' L' hq le_22 hI => ?_) (fun l' H' L' le_23 hI => ?_)
    · obtain ⟨m, kvs, M, rfl, _⟩ := h; exact ⟨rfl, rfl, rfl, rfl⟩
    · skip
      obtain ⟨m, kvs, M, rfl, rfl, pq0, pq1⟩ := hI
      refine sr ?_
      obtain ⟨b_24, o_25, e_26, g_27⟩ := (hT.u.mono (le_7.trans le_22)).at_ (ne_nil_of_lt hq)
      obtain ⟨c_28, q_29, q_30⟩ := g_27 q hq
      refine ix2 Try.runUnderlying37 Try.sizeOf63 rfl e_26 rfl rfl hq rfl ?_
      refine la (Says.fz q_29) Try.isAgg63 Try.sizeOf63 rfl (Nat.add_zero _).symm rfl rfl ?_
      refine al Try.zeroValue63 rfl rfl (fun b_31 => ?_)
      refine sa Try.sizeOf63 rfl rfl rfl rfl rfl .head ?_
      refine nl ?_
      refine rg ?_
      refine fa0 F151_2 rfl rfl ?_
      refine fa0 F63_0 rfl rfl ?_
      refine ld (Says.own .head) Try.isAgg60 rfl (Nat.zero_add _).symm rfl rfl ?_
      refine fa0 F63_1 rfl rfl ?_
      refine ld (Says.own .head) Try.isAgg22 rfl (Nat.zero_add _).symm rfl rfl ?_
      refine tf (.tail (.tail .head)) ?_
      refine tf (.tail (.tail .head)) ?_
      refine cl rfl rfl rfl (t_set (cs := [ub (T.at 0).s 0, ub (T.at 0).s 1, ub (T.at 0).s 2, ub (T.at 0).s 3, ub (T.at 0).s 4, ub (T.at 0).s 5, ub (T.at 0).s 6, ub (T.at 0).s 7, ub (T.at 0).s 8, ub (T.at 0).s 9, ub (T.at 0).s 10, ub (T.at 0).s 11, ub (T.at 0).s 12, ub (T.at 0).s 13, ub (T.at 0).s 14, ub (T.at 0).s 15, .slice a1 (lT (T.at 1)).length c1, .map m]) (off := 17) pq0 rfl) rfl (fun v H1 L1 hle hR => ?_)
      obtain ⟨rfl, g51, cs51, hs51, rfl⟩ := hR
      obtain rfl : [ub (T.at 0).s 0, ub (T.at 0).s 1, ub (T.at 0).s 2, ub (T.at 0).s 3, ub (T.at 0).s 4, ub (T.at 0).s 5, ub (T.at 0).s 6, ub (T.at 0).s 7, ub (T.at 0).s 8, ub (T.at 0).s 9, ub (T.at 0).s 10, ub (T.at 0).s 11, ub (T.at 0).s 12, ub (T.at 0).s 13, ub (T.at 0).s 14, ub (T.at 0).s 15, .slice a1 (lT (T.at 1)).length c1, .map (some g51)] = cs51 := Option.some.inj hs51
      refine nN ?_
      refine Nb ?_
      refine drN (.tail (.tail .head)) ?_
      refine fun a_ w_ hA hw => ⟨_, _, _, hA.sub ?_, le_22, hw, _, rfl, _, _, [(g51, _)], rfl, rfl, (.inr ⟨g51, rfl, rfl⟩), (KvTo.put hf.u (List.getElem?_eq_getElem hq) pq1 (⟨⟨_, _, rfl, q_30.val⟩, q_30.lo, q_30.hi⟩))⟩
      exact (.cons rfl (.cons rfl (.cons rfl (.cons rfl (.cons rfl (.nil _))))))
    · skip
      obtain ⟨m, kvs, M, rfl, rfl, pq0, pq1⟩ := hI
      refine toWp ?_
      rw [List.take_length] at pq1
      refine frMW pq0 .head (fun H3 hle3 hmf => ?_)
      have hft := KvTo.at_ hf.u (pq1.mono hle3) hmf
      refine sr ?_
      refine la (Says.own .head) Try.isAgg151 Try.sizeOf151 rfl (Nat.zero_add _).symm rfl rfl ?_
      refine sa Try.sizeOf151 rfl rfl rfl rfl rfl (.tail .head) ?_
      refine nl ?_
      refine drW .head ?_
      refine drW (.tail .head) ?_
      exact rC rfl Try.isAgg151 Try.sizeOf151 rfl .head rfl (le_7.trans (le_23.trans hle3)) (fun _ _ h => h) ⟨rfl, _, rfl, ⟨a1, c1, m, rfl, (hf1.mono At_ReadShareGroupStateSummaryRequestTopicPartition.mono (le_23.trans hle3)), hft⟩⟩
theorem fill_ReadShareGroupStateSummaryRequest {H : Fz} {L : Own} {b : Nat} {ver : Int} {c : TC} {T : Tr} (hT : TreeAt H c T) (hf : Fine T) :
    Fn Try.prog 88 [.pointer (some ⟨b, 0, none⟩), .agg (c.cells T).toArray] H ([(b, .cells [.int .i16 ver, .string ⟨#[]⟩, .slice none 0 0, .map none].toArray 94 (0, 0))] :: L) (fun _ H' L' => ∃ cs : List Value, L' = [(b, .cells cs.toArray 94 (0, 0))] :: L ∧ At_ReadShareGroupStateSummaryRequest ver H' T cs) := by
  refine Fn.mk Try.call88 Try.func88 rfl Try.ntmps88 rfl ?_
  refine sr ?_
  refine bx rfl rfl rfl (fun b_1 => ?_)
  refine nl ?_
  refine sr ?_
  refine mv rfl rfl ?_
  refine la (Says.own .head) Try.isAgg39 Try.sizeOf39 rfl (Nat.zero_add _).symm rfl rfl ?_
  refine cl rfl rfl rfl (m_at (i := 0) hT) rfl (fun v H1 L1 hle hR => ?_)
  obtain ⟨rfl, rfl, c10, rfl, g10⟩ := hR
  refine fc C39_1 rfl rfl rfl ?_
  refine cbS Try.underlying22 Try.underlying5 Try.underlying9 rfl g10.s rfl rfl ?_
  refine nc rfl rfl ?_
  refine fa0 F94_1 rfl rfl ?_
  refine st Try.sizeOf9 rfl rfl rfl rfl (.tail .head) ?_
  refine nl ?_
  refine sq ?_
  refine sr ?_
  refine la (Says.own .head) Try.isAgg39 Try.sizeOf39 rfl (Nat.zero_add _).symm rfl rfl ?_
  refine cl rfl rfl rfl (m_at (i := 1) hT) rfl (fun v H1 L1 hle hR => ?_)
  obtain ⟨rfl, rfl, c16, rfl, g16⟩ := hR
  refine fc C39_2 rfl rfl rfl ?_
  refine nt rfl rfl ?_
  refine nl ?_
  refine cutT (fun l' H' L' => ∃ (a1 : Option Addr), ∃ (n1 : Nat), ∃ (c1 : Nat), [(0, .pointer (some ⟨b, 0, none⟩)), (3, .pointer (some ⟨b_1, 0, none⟩))] = l' ∧ [(b_1, .cells (c.cells T).toArray 39 (0, 0))] :: [(b, .cells [.int .i16 ver, .string ⟨(T.at 0).s.toArray⟩, .slice a1 n1 c1, .map none].toArray 94 (0, 0))] :: L = L' ∧ n1 = (lT (T.at 1)).length ∧ ListAt H' (T.at 1) 18 At_ReadShareGroupStateSummaryRequestTopic a1 c1) ?_ (fun l' H' L' le_4 hI => ?_)
  · skip
    refine cb rfl (fun h18 => ?_) (fun h18 => ?_)
    · skip
      have hnu : (T.at 1).nul = false := by simpa using h18
      have hlt : lT (T.at 1) = (T.at 1).l := lT_not hnu
      have hfl := (hf.at 1).len
      refine sr ?_
      refine mv rfl rfl ?_
      refine la (Says.own .head) Try.isAgg39 Try.sizeOf39 rfl (Nat.zero_add _).symm rfl rfl ?_
      refine cl rfl rfl rfl (m_at (i := 1) hT) rfl (fun v H1 L1 hle hR => ?_)
      obtain ⟨rfl, rfl, c21, rfl, g21⟩ := hR
      refine fc C39_3 rfl rfl rfl ?_
      refine ls Try.runUnderlying36 rfl rfl ?_
      refine mks (m := 0) (c := (T.at 1).l.length) (zs := [.int .u8 0, .int .u8 0, .int .u8 0, .int .u8 0, .int .u8 0, .int .u8 0, .int .u8 0, .int .u8 0, .int .u8 0, .int .u8 0, .int .u8 0, .int .u8 0, .int .u8 0, .int .u8 0, .int .u8 0, .int .u8 0, .slice none 0 0, .map none]) Try.underlying92 I151 rfl rfl rfl rfl rfl (by omega) (by omega) (by unfold maxLen; omega) rfl (fun bm24 N24 r24 => ?_)
      refine nc rfl rfl ?_
      refine fa0 F94_2 rfl rfl ?_
      refine st Try.sizeOf92 rfl rfl rfl rfl (.tail (.tail .head)) ?_
      refine nl ?_
      refine sr ?_
      refine la (Says.own (.tail .head)) Try.isAgg39 Try.sizeOf39 rfl (Nat.zero_add _).symm rfl rfl ?_
      refine cl rfl rfl rfl (m_at (i := 1) hT) rfl (fun v H1 L1 hle hR => ?_)
      obtain ⟨rfl, rfl, c28, rfl, g28⟩ := hR
      refine fc C39_3 rfl rfl rfl ?_
      refine ls Try.runUnderlying36 rfl rfl ?_
      refine mv rfl rfl ?_
      refine nl ?_
      refine fr ((T.at 1).l.length) (fun k l' H' L' => ∃ (a : Option Addr), ∃ (m : Nat), ∃ (c_ : Nat), ∃ (es : List (KE 18)), ∃ (N : Chunk), [(0, .pointer (some ⟨b, 0, none⟩)), (3, .pointer (some ⟨b_1, 0, none⟩)), (29, .slice c28.la (T.at 1).l.length c28.lc), (30, .int .i64 ((T.at 1).l.length : Int))] = l' ∧ N :: [(b_1, .cells (c.cells T).toArray 39 (0, 0))] :: [(b, .cells [.int .i16 ver, .string ⟨(T.at 0).s.toArray⟩, .slice a m c_, .map none].toArray 94 (0, 0))] :: L = L' ∧ Row 151 18 a m c_ (es.flatMap fk) N ∧ m = es.length ∧ (∀ p : KE 18, p ∈ es → At_ReadShareGroupStateSummaryRequestTopic H' p.2 (fk p)) ∧ es.map (·.2) = ((T.at 1).l.take k).map id ∧ a.isNone = false) [(0, .pointer (some ⟨b, 0, none⟩)), (3, .pointer (some ⟨b_1, 0, none⟩)), (29, .slice c28.la (T.at 1).l.length c28.lc), (30, .int .i64 ((T.at 1).l.length : Int))] (fun k l' H' L' h => ?_) (by omega) rfl (.cons rfl (.cons rfl (.cons rfl (.cons rfl (.nil _))))) ⟨some ⟨bm24, 0, none⟩, 0, _, [], N24, rfl, rfl, r24, rfl, (fun p hp => by cases hp), (by simp), rfl⟩ rfl rfl rfl rfl rfl (fun k l' H' L' hk le_7 hI => ?_) (fun l' H' L' le_8 hI => ?_)
      · obtain ⟨a, m, c_, es, N, rfl, _⟩ := h; exact ⟨rfl, rfl, rfl, rfl⟩
      · skip
        obtain ⟨a, m, c_, es, N, rfl, rfl, pk0, pk1, pk2, pk3, pk4⟩ := hI
        refine sr ?_
        obtain ⟨b_9, o_10, e_11, g_12⟩ := (g28.l.mono le_7).at_ (ne_nil_of_lt hk)
        obtain ⟨c_13, q_14, q_15⟩ := g_12 k hk
        refine ix2 Try.runUnderlying36 Try.sizeOf39 rfl e_11 rfl rfl hk rfl ?_
        refine la (Says.fz q_14) Try.isAgg39 Try.sizeOf39 rfl (Nat.add_zero _).symm rfl rfl ?_
        refine al Try.zeroValue39 rfl rfl (fun b_16 => ?_)
        refine sa Try.sizeOf39 rfl rfl rfl rfl rfl .head ?_
        refine nl ?_
        refine rgD 11 (.keep (.skip (.keep (.keep .nil)))) mixed ?_
        refine dT 0 rfl rfl rfl (by kernel_rfl) (fun _ _ _ h => h) (y_mv rfl) (.keep (.skip (.keep (.keep .nil)))) (Fz.le.refl _) ?_
        refine dT 1 rfl rfl rfl (by kernel_rfl) (fun _ _ _ h => h) (y_mv rfl) (.keep (.skip (.keep (.keep .nil)))) (Fz.le.refl _) ?_
        refine dT 2 rfl rfl rfl (by kernel_rfl) (fun _ _ _ h => h) (y_nc rfl) (.keep (.skip (.keep (.keep .nil)))) (Fz.le.refl _) ?_
        refine dT 3 rfl rfl rfl (by kernel_rfl) (fun _ _ _ h => h) (y_fa0 F94_2 rfl) (.keep (.skip (.keep (.keep .nil)))) (Fz.le.refl _) ?_
        refine dT 4 rfl rfl rfl (by kernel_rfl) (fun _ _ _ h => h) (y_ld (Says.own (.tail (.tail .head))) Try.isAgg92 rfl (Nat.zero_add _).symm rfl) (.keep (.skip (.keep (.keep .nil)))) (Fz.le.refl _) ?_
        refine dT 5 rfl rfl rfl (by kernel_rfl) (fun _ _ _ h => h) (y_la (Says.own .head) Try.isAgg39 Try.sizeOf39 rfl (Nat.zero_add _).symm rfl) (.keep (.skip (.keep (.keep .nil)))) (Fz.le.refl _) ?_
        refine dE 6 (by kernel_rfl) rfl ?_
        refine cl rfl rfl rfl (make_ReadShareGroupStateSummaryRequestTopic q_15 ((hf.at 1).el (List.getElem_mem hk))) rfl (fun v H1 L1 le_17 hR => ?_)
        obtain ⟨rfl, cs41, rfl, g41⟩ := hR
        have ho41 := At_ReadShareGroupStateSummaryRequestTopic.ok g41
        have gg41 := g41
        obtain ⟨a1e, c1e, mte, rfl, he0, he1⟩ := g41
        refine dN (.keep (.skip (.keep (.keep .nil)))) le_17 ?_
        refine dE 7 (by kernel_rfl) rfl ?_
        refine bs' L92 rfl rfl rfl rfl (fun b_18 => ?_)
        refine dN (.skip (.keep (.skip (.keep (.keep .nil))))) le_17 ?_
        refine dE 8 (by kernel_rfl) rfl ?_
        have hmk : m = k := by have h1 := congrArg List.length pk3; rw [List.length_map, List.length_map, List.length_take] at h1; omega
        refine ap (news := fk ((⟨_, ho41⟩, (T.at 1).l[k]) : KE 18)) Try.underlying92 I151 rfl rfl pk0 (fun _ => (.tail (.tail .head))) (src_says Try.underlying92 rfl (fun _ => Says.own .head) (fk_one _)) (by omega) (by unfold maxLen; omega) rfl (fun a43 c43 N43 r43 z43 => ?_)
        rw [flatMap_snoc'] at r43
        have hin : a43.isNone = false := by cases a43 with | none => have := z43.1 rfl; omega | some _ => rfl
        refine dN (.skip (.keep (.skip (.keep (.keep .nil))))) le_17 ?_
        refine dE 9 (by kernel_rfl) rfl ?_
        refine nc rfl rfl ?_
        refine dN (.skip (.keep (.skip (.keep (.keep .nil))))) le_17 ?_
        refine dT 10 rfl rfl rfl (by kernel_rfl) (fun _ _ _ h => h) (y_fa0 F94_2 rfl) (.skip (.keep (.skip (.keep (.keep .nil))))) le_17 ?_
        refine dE 11 (by kernel_rfl) rfl ?_
        refine st Try.sizeOf92 rfl rfl rfl rfl (.tail (.tail (.tail (.tail .head)))) ?_
        refine dNk (by kernel_rfl) ?_
        refine dD (by kernel_rfl) ?_
        refine Nb ?_
        refine drN .head ?_
        refine drN .head ?_
        refine fun a_ w_ hA hw => ⟨_, _, _, hA.sub ?_, (le_7.trans le_17), hw, _, rfl, a43, _, c43, (es ++ [((⟨_, ho41⟩, (T.at 1).l[k]) : KE 18)]), N43, rfl, rfl, r43, (by simp; omega), (fun p hp => (mem_snoc hp).elim (fun h => At_ReadShareGroupStateSummaryRequestTopic.mono _ _ _ _ le_17 (pk2 p h)) (fun h => h ▸ At_ReadShareGroupStateSummaryRequestTopic.mono _ _ _ _ (Fz.le.refl _) gg41)), (map_take_snoc hk pk3), hin⟩
        exact (.cons rfl (.cons rfl (.cons rfl (.cons rfl (.cons rfl (.nil _))))))
      · skip
        obtain ⟨a, m, c_, es, N, rfl, rfl, pk0, pk1, pk2, pk3, pk4⟩ := hI
        refine toNn ?_
        have hm : m = (T.at 1).l.length := by have h1 := congrArg List.length pk3; rw [List.length_map, List.length_map, List.take_length] at h1; omega
        have hfe : es.map (·.2) = (T.at 1).l := by rw [pk3, List.take_length, List.map_id]
        refine frN pk0 .head (fun H2 hle2 hfz => ?_)
        have hrw := RowsAt.row (R := At_ReadShareGroupStateSummaryRequestTopic) hfz pk1 pk0.le.1 (fun p hp => At_ReadShareGroupStateSummaryRequestTopic.mono _ _ _ _ hle2 (pk2 p hp))
        rw [hfe, ← hlt] at hrw
        have hnl : m = (lT (T.at 1)).length := by rw [hlt]; exact hm
        have hla : ListAt H2 (T.at 1) 18 At_ReadShareGroupStateSummaryRequestTopic a c_ := ⟨hrw, by rw [pk4, hnu]⟩
        refine fun a_ w_ hA hw => ⟨_, _, _, hA.sub ?_, (le_8.trans hle2), hw, a, m, c_, rfl, rfl, hnl, hla⟩
        exact (.cons rfl (.cons rfl (.nil _)))
    · skip
      have hnu : (T.at 1).nul = true := by simpa using h18
      refine skN ?_
      refine fun a_ w_ hA hw => ⟨_, _, _, hA.sub ?_, (Fz.le.refl _), hw, none, 0, 0, rfl, rfl, (by rw [lT_nul hnu]; rfl), (ListAt.none hnu)⟩
      exact (.cons rfl (.cons rfl (.nil _)))
  · skip
    obtain ⟨a1, n1, c1, rfl, rfl, pj0, pj1⟩ := hI
    subst pj0
    have hf1 := pj1
    refine sr ?_
    refine fa0 F39_4 rfl rfl ?_
    refine ld (Says.own .head) Try.isAgg37 rfl (Nat.zero_add _).symm rfl rfl ?_
    refine ls Try.runUnderlying37 rfl rfl ?_
    refine mv rfl rfl ?_
    refine nl ?_
    refine nulC2 ?_
    have hun := hf.un
    refine fr (T.u.length) (fun q l' H' L' => ∃ (m : Option Nat), ∃ (kvs : List KV), ∃ (M : Chunk), [(0, .pointer (some ⟨b, 0, none⟩)), (48, .slice c.ua T.u.length c.uc), (49, .int .i64 (T.u.length : Int))] = l' ∧ M :: [(b_1, .cells (c.cells T).toArray 39 (0, 0))] :: [(b, .cells [.int .i16 ver, .string ⟨(T.at 0).s.toArray⟩, .slice a1 (lT (T.at 1)).length c1, .map m].toArray 94 (0, 0))] :: L = L' ∧ MapC m kvs M ∧ KvTo H' (T.u.take q) kvs) [(0, .pointer (some ⟨b, 0, none⟩)), (48, .slice c.ua T.u.length c.uc), (49, .int .i64 (T.u.length : Int))] (fun q l' H' L' h => ?_) (by omega) rfl (.cons rfl (.cons rfl (.cons rfl (.nil _)))) ⟨none, [], [], rfl, rfl, MapC.nil, (KvTo.nil _)⟩ rfl rfl rfl rfl rfl (fun q l' H' L' hq le_19 hI => ?_) (fun l' H' L' le_20 hI => ?_)
    · obtain ⟨m, kvs, M, rfl, _⟩ := h; exact ⟨rfl, rfl, rfl, rfl⟩
    · skip
      obtain ⟨m, kvs, M, rfl, rfl, pq0, pq1⟩ := hI
      refine sr ?_
      obtain ⟨b_21, o_22, e_23, g_24⟩ := (hT.u.mono (le_4.trans le_19)).at_ (ne_nil_of_lt hq)
      obtain ⟨c_25, q_26, q_27⟩ := g_24 q hq
      refine ix2 Try.runUnderlying37 Try.sizeOf63 rfl e_23 rfl rfl hq rfl ?_
      refine la (Says.fz q_26) Try.isAgg63 Try.sizeOf63 rfl (Nat.add_zero _).symm rfl rfl ?_
      refine al Try.zeroValue63 rfl rfl (fun b_28 => ?_)
      refine sa Try.sizeOf63 rfl rfl rfl rfl rfl .head ?_
      refine nl ?_
      refine rgD 8 (.keep (.skip (.keep .nil))) mixed ?_
      refine dT 0 rfl rfl rfl (by kernel_rfl) (fun _ _ _ h => h) (y_mv rfl) (.keep (.skip (.keep .nil))) (Fz.le.refl _) ?_
      refine dT 1 rfl rfl rfl (by kernel_rfl) (fun _ _ _ h => h) (y_nc rfl) (.keep (.skip (.keep .nil))) (Fz.le.refl _) ?_
      refine dT 2 rfl rfl rfl (by kernel_rfl) (fun _ _ _ h => h) (y_fa0 F94_3 rfl) (.keep (.skip (.keep .nil))) (Fz.le.refl _) ?_
      refine dT 3 rfl rfl rfl (by kernel_rfl) (fun _ _ _ h => h) (y_fa0 F63_0 rfl) (.keep (.skip (.keep .nil))) (Fz.le.refl _) ?_
      refine dT 4 rfl rfl rfl (by kernel_rfl) (fun _ _ _ h => h) (y_ld (Says.own .head) Try.isAgg60 rfl (Nat.zero_add _).symm rfl) (.keep (.skip (.keep .nil))) (Fz.le.refl _) ?_
      refine dT 5 rfl rfl rfl (by kernel_rfl) (fun _ _ _ h => h) (y_fa0 F63_1 rfl) (.keep (.skip (.keep .nil))) (Fz.le.refl _) ?_
      refine dT 6 rfl rfl rfl (by kernel_rfl) (fun _ _ _ h => h) (y_ld (Says.own .head) Try.isAgg22 rfl (Nat.zero_add _).symm rfl) (.keep (.skip (.keep .nil))) (Fz.le.refl _) ?_
      refine dE 7 (by kernel_rfl) rfl ?_
      refine tf (.tail (.tail (.tail .head))) ?_
      refine tf (.tail (.tail .head)) ?_
      refine cl rfl rfl rfl (t_set (cs := [.int .i16 ver, .string ⟨(T.at 0).s.toArray⟩, .slice a1 (lT (T.at 1)).length c1, .map m]) (off := 3) pq0 rfl) rfl (fun v H1 L1 hle hR => ?_)
      obtain ⟨rfl, g61, cs61, hs61, rfl⟩ := hR
      obtain rfl : [.int .i16 ver, .string ⟨(T.at 0).s.toArray⟩, .slice a1 (lT (T.at 1)).length c1, .map (some g61)] = cs61 := Option.some.inj hs61
      refine dN (.skip (.skip (.keep (.keep .nil)))) (Fz.le.refl _) ?_
      refine dD (by kernel_rfl) ?_
      refine Nb ?_
      refine drN (.tail (.tail .head)) ?_
      refine tfN (.tail .head) ?_
      refine tfN (.tail (.tail .head)) ?_
      refine tfN (.tail (.tail .head)) ?_
      refine fun a_ w_ hA hw => ⟨_, _, _, hA.sub ?_, le_19, hw, _, rfl, _, _, [(g61, _)], rfl, rfl, (.inr ⟨g61, rfl, rfl⟩), (KvTo.put hf.u (List.getElem?_eq_getElem hq) pq1 (⟨⟨_, _, rfl, q_27.val⟩, q_27.lo, q_27.hi⟩))⟩
      exact (.cons rfl (.cons rfl (.cons rfl (.cons rfl (.nil _)))))
    · skip
      obtain ⟨m, kvs, M, rfl, rfl, pq0, pq1⟩ := hI
      refine toNn ?_
      rw [List.take_length] at pq1
      refine frMN pq0 .head (fun H3 hle3 hmf => ?_)
      have hft := KvTo.at_ hf.u (pq1.mono hle3) hmf
      refine drN .head ?_
      exact fun _ _ hA hw => rn rfl (le_4.trans (le_20.trans hle3)) ⟨_, rfl, ⟨a1, c1, m, rfl, (hf1.mono At_ReadShareGroupStateSummaryRequestTopic.mono (le_20.trans hle3)), hft⟩⟩ hA hw
end Go.Sx

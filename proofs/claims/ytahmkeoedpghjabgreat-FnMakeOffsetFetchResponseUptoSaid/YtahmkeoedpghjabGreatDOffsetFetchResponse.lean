import Derived.Test.YtahmkeoedpghjabGreatBOffsetFetchResponse
import Derived.Test.YtahmkeoedpghjabGreatD0
import Derived.KernelRfl
set_option linter.unusedVariables false
set_option linter.unusedSimpArgs false
set_option maxRecDepth 100000
set_option maxHeartbeats 20000000
namespace Go.Sx
open Go.Proofs
theorem make_OffsetFetchResponseTopicPartition {H : Fz} {L : Own} {c : TC} {T : Tr} (hT : TreeAt H c T) (hf : Fine T) :
    Fn Tryz.prog 116 [.agg (c.cells T).toArray] H L (fun v H' L' => L = L' ∧ ∃ cs : List Value, v = .agg cs.toArray ∧ At_OffsetFetchResponseTopicPartition H' T cs) := by
  refine Fn.mk Tryz.call116 Tryz.func116 rfl Tryz.ntmps116 rfl ?_
  refine sr ?_
  refine bx rfl rfl rfl (fun b_1 => ?_)
  refine al Tryz.zeroValue112 rfl rfl (fun b_2 => ?_)
  refine nl ?_
  refine sr ?_
  refine al Tryz.zeroValue112 rfl rfl (fun b_3 => ?_)
  refine nl ?_
  refine sr ?_
  refine la (Says.own (.tail (.tail .head))) Tryz.isAgg39 Tryz.sizeOf39 rfl (Nat.zero_add _).symm rfl rfl ?_
  refine cl rfl rfl rfl (m_at (i := 0) hT) rfl (fun v H1 L1 hle hR => ?_)
  obtain ⟨rfl, rfl, c7, rfl, g7⟩ := hR
  refine fc C39_0 rfl rfl rfl ?_
  refine cv Tryz.runUnderlying2 Tryz.runUnderlying21 rfl rfl rfl ?_
  refine fa0 F112_0 rfl rfl ?_
  refine st Tryz.sizeOf21 rfl rfl rfl rfl .head ?_
  refine nl ?_
  refine sr ?_
  refine la (Says.own (.tail (.tail .head))) Tryz.isAgg39 Tryz.sizeOf39 rfl (Nat.zero_add _).symm rfl rfl ?_
  refine cl rfl rfl rfl (m_at (i := 1) hT) rfl (fun v H1 L1 hle hR => ?_)
  obtain ⟨rfl, rfl, c12, rfl, g12⟩ := hR
  refine fc C39_0 rfl rfl rfl ?_
  refine fa0 F112_1 rfl rfl ?_
  refine st Tryz.sizeOf2 rfl rfl rfl rfl .head ?_
  refine nl ?_
  refine sr ?_
  refine la (Says.own (.tail (.tail .head))) Tryz.isAgg39 Tryz.sizeOf39 rfl (Nat.zero_add _).symm rfl rfl ?_
  refine cl rfl rfl rfl (m_at (i := 2) hT) rfl (fun v H1 L1 hle hR => ?_)
  obtain ⟨rfl, rfl, c16, rfl, g16⟩ := hR
  refine fc C39_0 rfl rfl rfl ?_
  refine cv Tryz.runUnderlying2 Tryz.runUnderlying21 rfl rfl rfl ?_
  refine fa0 F112_2 rfl rfl ?_
  refine st Tryz.sizeOf21 rfl rfl rfl rfl .head ?_
  refine nl ?_
  refine sr ?_
  refine la (Says.own (.tail (.tail .head))) Tryz.isAgg39 Tryz.sizeOf39 rfl (Nat.zero_add _).symm rfl rfl ?_
  refine cl rfl rfl rfl (m_at (i := 3) hT) rfl (fun v H1 L1 hle hR => ?_)
  obtain ⟨rfl, rfl, c21, rfl, g21⟩ := hR
  refine cl rfl rfl rfl (m_textOf g21) rfl (fun v H1 L1 le_8 hR => ?_)
  obtain ⟨rfl, p3, rfl, hf3⟩ := hR
  refine fa0 F112_3 rfl rfl ?_
  refine st Tryz.sizeOf110 rfl rfl rfl rfl .head ?_
  refine nl ?_
  refine sr ?_
  refine la (Says.own (.tail (.tail .head))) Tryz.isAgg39 Tryz.sizeOf39 rfl (Nat.zero_add _).symm rfl rfl ?_
  refine cl rfl rfl rfl (m_at (i := 4) (hT.mono le_8)) rfl (fun v H1 L1 hle hR => ?_)
  obtain ⟨rfl, rfl, c25, rfl, g25⟩ := hR
  refine fc C39_0 rfl rfl rfl ?_
  refine cv Tryz.runUnderlying2 Tryz.runUnderlying45 rfl rfl rfl ?_
  refine fa0 F112_4 rfl rfl ?_
  refine st Tryz.sizeOf45 rfl rfl rfl rfl .head ?_
  refine nl ?_
  refine sq ?_
  refine sr ?_
  refine fa0 F39_4 rfl rfl ?_
  refine ld (Says.own (.tail (.tail .head))) Tryz.isAgg37 rfl (Nat.zero_add _).symm rfl rfl ?_
  refine ls Tryz.runUnderlying37 rfl rfl ?_
  refine mv rfl rfl ?_
  refine nl ?_
  refine nulC2 ?_
  have hun := hf.un
  refine fr (T.u.length) (fun q l' H' L' => ∃ (m : Option Nat), ∃ (kvs : List KV), ∃ (M : Chunk), [(2, .pointer (some ⟨b_2, 0, none⟩)), (3, .pointer (some ⟨b_3, 0, none⟩)), (30, .slice c.ua T.u.length c.uc), (31, .int .i64 (T.u.length : Int))] = l' ∧ M :: [(b_3, .cells [.int .i32 (IntKind.i32.wrap (T.at 0).n), .int .i64 (T.at 1).n, .int .i32 (IntKind.i32.wrap (T.at 2).n), .pointer p3, .int .i16 (IntKind.i16.wrap (T.at 4).n), .map m].toArray 112 (0, 0))] :: [(b_2, .cells [.int .i32 0, .int .i64 0, .int .i32 0, .pointer none, .int .i16 0, .map none].toArray 112 (0, 0))] :: [(b_1, .cells (c.cells T).toArray 39 (0, 0))] :: L = L' ∧ MapC m kvs M ∧ KvTo H' (T.u.take q) kvs) [(2, .pointer (some ⟨b_2, 0, none⟩)), (3, .pointer (some ⟨b_3, 0, none⟩)), (30, .slice c.ua T.u.length c.uc), (31, .int .i64 (T.u.length : Int))] (fun q l' H' L' h => ?_) (by omega) rfl (.cons rfl (.cons rfl (.cons rfl (.cons rfl (.nil _))))) ⟨none, [], [], rfl, rfl, MapC.nil, (KvTo.nil _)⟩ rfl rfl rfl rfl rfl (fun q l' H' L' hq le_10 hI => ?_) (fun l' H' L' le_11 hI => ?_)
  · obtain ⟨m, kvs, M, rfl, _⟩ := h; exact ⟨rfl, rfl, rfl, rfl⟩
  · skip
    obtain ⟨m, kvs, M, rfl, rfl, pq0, pq1⟩ := hI
    refine sr ?_
    obtain ⟨b_12, o_13, e_14, g_15⟩ := (hT.u.mono (le_8.trans le_10)).at_ (ne_nil_of_lt hq)
    obtain ⟨c_16, q_17, q_18⟩ := g_15 q hq
    refine ix2 Tryz.runUnderlying37 Tryz.sizeOf65 rfl e_14 rfl rfl hq rfl ?_
    refine la (Says.fz q_17) Tryz.isAgg65 Tryz.sizeOf65 rfl (Nat.add_zero _).symm rfl rfl ?_
    refine al Tryz.zeroValue65 rfl rfl (fun b_19 => ?_)
    refine sa Tryz.sizeOf65 rfl rfl rfl rfl rfl .head ?_
    refine nl ?_
    refine rg ?_
    refine fa0 F112_5 rfl rfl ?_
    refine fa0 F65_0 rfl rfl ?_
    refine ld (Says.own .head) Tryz.isAgg62 rfl (Nat.zero_add _).symm rfl rfl ?_
    refine fa0 F65_1 rfl rfl ?_
    refine ld (Says.own .head) Tryz.isAgg22 rfl (Nat.zero_add _).symm rfl rfl ?_
    refine tf (.tail (.tail .head)) ?_
    refine tf (.tail (.tail .head)) ?_
    refine cl rfl rfl rfl (t_set (cs := [.int .i32 (IntKind.i32.wrap (T.at 0).n), .int .i64 (T.at 1).n, .int .i32 (IntKind.i32.wrap (T.at 2).n), .pointer p3, .int .i16 (IntKind.i16.wrap (T.at 4).n), .map m]) (off := 5) pq0 rfl) rfl (fun v H1 L1 hle hR => ?_)
    obtain ⟨rfl, g41, cs41, hs41, rfl⟩ := hR
    obtain rfl : [.int .i32 (IntKind.i32.wrap (T.at 0).n), .int .i64 (T.at 1).n, .int .i32 (IntKind.i32.wrap (T.at 2).n), .pointer p3, .int .i16 (IntKind.i16.wrap (T.at 4).n), .map (some g41)] = cs41 := Option.some.inj hs41
    refine nN ?_
    refine Nb ?_
    refine drN (.tail (.tail .head)) ?_
    refine fun a_ w_ hA hw => ⟨_, _, _, hA.sub ?_, le_10, hw, _, rfl, _, _, [(g41, _)], rfl, rfl, (.inr ⟨g41, rfl, rfl⟩), (KvTo.put hf.u (List.getElem?_eq_getElem hq) pq1 (⟨⟨_, _, rfl, q_18.val⟩, q_18.lo, q_18.hi⟩))⟩
    exact (.cons rfl (.cons rfl (.cons rfl (.cons rfl (.cons rfl (.nil _))))))
  · skip
    obtain ⟨m, kvs, M, rfl, rfl, pq0, pq1⟩ := hI
    refine toWp ?_
    rw [List.take_length] at pq1
    refine frMW pq0 .head (fun H3 hle3 hmf => ?_)
    have hft := KvTo.at_ hf.u (pq1.mono hle3) hmf
    refine sr ?_
    refine la (Says.own .head) Tryz.isAgg112 Tryz.sizeOf112 rfl (Nat.zero_add _).symm rfl rfl ?_
    refine sa Tryz.sizeOf112 rfl rfl rfl rfl rfl (.tail .head) ?_
    refine nl ?_
    refine drW .head ?_
    refine drW (.tail .head) ?_
    exact rC rfl Tryz.isAgg112 Tryz.sizeOf112 rfl .head rfl (le_8.trans (le_11.trans hle3)) (fun _ _ h => h) ⟨rfl, _, rfl, ⟨p3, m, rfl, (hf3.mono (le_11.trans hle3)), hft⟩⟩
theorem make_OffsetFetchResponseTopic {H : Fz} {L : Own} {c : TC} {T : Tr} (hT : TreeAt H c T) (hf : Fine T) :
    Fn Tryz.prog 64 [.agg (c.cells T).toArray] H L (fun v H' L' => L = L' ∧ ∃ cs : List Value, v = .agg cs.toArray ∧ At_OffsetFetchResponseTopic H' T cs) := by
  refine Fn.mk Tryz.call64 Tryz.func64 rfl Tryz.ntmps64 rfl ?_
  refine sr ?_
  refine bx rfl rfl rfl (fun b_1 => ?_)
  refine al Tryz.zeroValue98 rfl rfl (fun b_2 => ?_)
  refine nl ?_
  refine sr ?_
  refine al Tryz.zeroValue98 rfl rfl (fun b_3 => ?_)
  refine nl ?_
  refine sr ?_
  refine la (Says.own (.tail (.tail .head))) Tryz.isAgg39 Tryz.sizeOf39 rfl (Nat.zero_add _).symm rfl rfl ?_
  refine cl rfl rfl rfl (m_at (i := 0) hT) rfl (fun v H1 L1 hle hR => ?_)
  obtain ⟨rfl, rfl, c9, rfl, g9⟩ := hR
  refine fc C39_1 rfl rfl rfl ?_
  refine cbS Tryz.underlying22 Tryz.underlying5 Tryz.underlying9 rfl g9.s rfl rfl ?_
  refine fa0 F98_0 rfl rfl ?_
  refine st Tryz.sizeOf9 rfl rfl rfl rfl .head ?_
  refine nl ?_
  refine sq ?_
  refine sr ?_
  refine la (Says.own (.tail (.tail .head))) Tryz.isAgg39 Tryz.sizeOf39 rfl (Nat.zero_add _).symm rfl rfl ?_
  refine cl rfl rfl rfl (m_at (i := 1) hT) rfl (fun v H1 L1 hle hR => ?_)
  obtain ⟨rfl, rfl, c14, rfl, g14⟩ := hR
  refine fc C39_2 rfl rfl rfl ?_
  refine nt rfl rfl ?_
  refine nl ?_
  refine cutT (fun l' H' L' => ∃ (a1 : Option Addr), ∃ (n1 : Nat), ∃ (c1 : Nat), [(1, .pointer (some ⟨b_1, 0, none⟩)), (2, .pointer (some ⟨b_2, 0, none⟩)), (3, .pointer (some ⟨b_3, 0, none⟩))] = l' ∧ [(b_3, .cells [.string ⟨(T.at 0).s.toArray⟩, .slice a1 n1 c1, .map none].toArray 98 (0, 0))] :: [(b_2, .cells [.string ⟨#[]⟩, .slice none 0 0, .map none].toArray 98 (0, 0))] :: [(b_1, .cells (c.cells T).toArray 39 (0, 0))] :: L = L' ∧ n1 = (lT (T.at 1)).length ∧ ListAt H' (T.at 1) 6 At_OffsetFetchResponseTopicPartition a1 c1) ?_ (fun l' H' L' le_6 hI => ?_)
  · skip
    refine cb rfl (fun h16 => ?_) (fun h16 => ?_)
    · skip
      have hnu : (T.at 1).nul = false := by simpa using h16
      have hlt : lT (T.at 1) = (T.at 1).l := lT_not hnu
      have hfl := (hf.at 1).len
      refine sr ?_
      refine la (Says.own (.tail (.tail .head))) Tryz.isAgg39 Tryz.sizeOf39 rfl (Nat.zero_add _).symm rfl rfl ?_
      refine cl rfl rfl rfl (m_at (i := 1) hT) rfl (fun v H1 L1 hle hR => ?_)
      obtain ⟨rfl, rfl, c18, rfl, g18⟩ := hR
      refine fc C39_3 rfl rfl rfl ?_
      refine ls Tryz.runUnderlying36 rfl rfl ?_
      refine mks (m := 0) (c := (T.at 1).l.length) (zs := [.int .i32 0, .int .i64 0, .int .i32 0, .pointer none, .int .i16 0, .map none]) Tryz.underlying96 I112 rfl rfl rfl rfl rfl (by omega) (by omega) (by unfold maxLen; omega) rfl (fun bm21 N21 r21 => ?_)
      refine fa0 F98_1 rfl rfl ?_
      refine st Tryz.sizeOf96 rfl rfl rfl rfl (.tail .head) ?_
      refine nl ?_
      refine sr ?_
      refine la (Says.own (.tail (.tail (.tail .head)))) Tryz.isAgg39 Tryz.sizeOf39 rfl (Nat.zero_add _).symm rfl rfl ?_
      refine cl rfl rfl rfl (m_at (i := 1) hT) rfl (fun v H1 L1 hle hR => ?_)
      obtain ⟨rfl, rfl, c24, rfl, g24⟩ := hR
      refine fc C39_3 rfl rfl rfl ?_
      refine ls Tryz.runUnderlying36 rfl rfl ?_
      refine mv rfl rfl ?_
      refine nl ?_
      refine fr ((T.at 1).l.length) (fun k l' H' L' => ∃ (a : Option Addr), ∃ (m : Nat), ∃ (c_ : Nat), ∃ (es : List (KE 6)), ∃ (N : Chunk), [(1, .pointer (some ⟨b_1, 0, none⟩)), (2, .pointer (some ⟨b_2, 0, none⟩)), (3, .pointer (some ⟨b_3, 0, none⟩)), (25, .slice c24.la (T.at 1).l.length c24.lc), (26, .int .i64 ((T.at 1).l.length : Int))] = l' ∧ N :: [(b_3, .cells [.string ⟨(T.at 0).s.toArray⟩, .slice a m c_, .map none].toArray 98 (0, 0))] :: [(b_2, .cells [.string ⟨#[]⟩, .slice none 0 0, .map none].toArray 98 (0, 0))] :: [(b_1, .cells (c.cells T).toArray 39 (0, 0))] :: L = L' ∧ Row 112 6 a m c_ (es.flatMap fk) N ∧ m = es.length ∧ (∀ p : KE 6, p ∈ es → At_OffsetFetchResponseTopicPartition H' p.2 (fk p)) ∧ es.map (·.2) = ((T.at 1).l.take k).map id ∧ a.isNone = false) [(1, .pointer (some ⟨b_1, 0, none⟩)), (2, .pointer (some ⟨b_2, 0, none⟩)), (3, .pointer (some ⟨b_3, 0, none⟩)), (25, .slice c24.la (T.at 1).l.length c24.lc), (26, .int .i64 ((T.at 1).l.length : Int))] (fun k l' H' L' h => ?_) (by omega) rfl (.cons rfl (.cons rfl (.cons rfl (.cons rfl (.cons rfl (.nil _)))))) ⟨some ⟨bm21, 0, none⟩, 0, _, [], N21, rfl, rfl, r21, rfl, (fun p hp => by cases hp), (by simp), rfl⟩ rfl rfl rfl rfl rfl (fun k l' H' L' hk le_9 hI => ?_) (fun l' H' L' le_10 hI => ?_)
      · obtain ⟨a, m, c_, es, N, rfl, _⟩ := h; exact ⟨rfl, rfl, rfl, rfl⟩
      · skip
        obtain ⟨a, m, c_, es, N, rfl, rfl, pk0, pk1, pk2, pk3, pk4⟩ := hI
        refine sr ?_
        obtain ⟨b_11, o_12, e_13, g_14⟩ := (g24.l.mono le_9).at_ (ne_nil_of_lt hk)
        obtain ⟨c_15, q_16, q_17⟩ := g_14 k hk
        refine ix2 Tryz.runUnderlying36 Tryz.sizeOf39 rfl e_13 rfl rfl hk rfl ?_
        refine la (Says.fz q_16) Tryz.isAgg39 Tryz.sizeOf39 rfl (Nat.add_zero _).symm rfl rfl ?_
        refine al Tryz.zeroValue39 rfl rfl (fun b_18 => ?_)
        refine sa Tryz.sizeOf39 rfl rfl rfl rfl rfl .head ?_
        refine nl ?_
        refine rgD 7 (.keep (.skip (.keep (.keep (.keep .nil))))) mixed ?_
        refine dT 0 rfl rfl rfl (by kernel_rfl) (fun _ _ _ h => h) (y_fa0 F98_1 rfl) (.keep (.skip (.keep (.keep (.keep .nil))))) (Fz.le.refl _) ?_
        refine dT 1 rfl rfl rfl (by kernel_rfl) (fun _ _ _ h => h) (y_ld (Says.own (.tail .head)) Tryz.isAgg96 rfl (Nat.zero_add _).symm rfl) (.keep (.skip (.keep (.keep (.keep .nil))))) (Fz.le.refl _) ?_
        refine dT 2 rfl rfl rfl (by kernel_rfl) (fun _ _ _ h => h) (y_la (Says.own .head) Tryz.isAgg39 Tryz.sizeOf39 rfl (Nat.zero_add _).symm rfl) (.keep (.skip (.keep (.keep (.keep .nil))))) (Fz.le.refl _) ?_
        refine dE 3 (by kernel_rfl) rfl ?_
        refine cl rfl rfl rfl (make_OffsetFetchResponseTopicPartition q_17 ((hf.at 1).el (List.getElem_mem hk))) rfl (fun v H1 L1 le_19 hR => ?_)
        obtain ⟨rfl, cs34, rfl, g34⟩ := hR
        have ho34 := At_OffsetFetchResponseTopicPartition.ok g34
        have gg34 := g34
        obtain ⟨p3e, mte, rfl, he0, he1⟩ := g34
        refine dN (.keep (.skip (.keep (.keep (.keep .nil))))) le_19 ?_
        refine dE 4 (by kernel_rfl) rfl ?_
        refine bs' L96 rfl rfl rfl rfl (fun b_20 => ?_)
        refine dN (.skip (.keep (.skip (.keep (.keep (.keep .nil)))))) le_19 ?_
        refine dE 5 (by kernel_rfl) rfl ?_
        have hmk : m = k := by have h1 := congrArg List.length pk3; rw [List.length_map, List.length_map, List.length_take] at h1; omega
        refine ap (news := fk ((⟨_, ho34⟩, (T.at 1).l[k]) : KE 6)) Tryz.underlying96 I112 rfl rfl pk0 (fun _ => (.tail (.tail .head))) (src_says Tryz.underlying96 rfl (fun _ => Says.own .head) (fk_one _)) (by omega) (by unfold maxLen; omega) rfl (fun a36 c36 N36 r36 z36 => ?_)
        rw [flatMap_snoc'] at r36
        have hin : a36.isNone = false := by cases a36 with | none => have := z36.1 rfl; omega | some _ => rfl
        refine dN (.skip (.keep (.skip (.keep (.keep (.keep .nil)))))) le_19 ?_
        refine dT 6 rfl rfl rfl (by kernel_rfl) (fun _ _ _ h => h) (y_fa0 F98_1 rfl) (.skip (.keep (.skip (.keep (.keep (.keep .nil)))))) le_19 ?_
        refine dE 7 (by kernel_rfl) rfl ?_
        refine st Tryz.sizeOf96 rfl rfl rfl rfl (.tail (.tail (.tail .head))) ?_
        refine dNk (by kernel_rfl) ?_
        refine dD (by kernel_rfl) ?_
        refine Nb ?_
        refine drN .head ?_
        refine drN .head ?_
        refine fun a_ w_ hA hw => ⟨_, _, _, hA.sub ?_, (le_9.trans le_19), hw, _, rfl, a36, _, c36, (es ++ [((⟨_, ho34⟩, (T.at 1).l[k]) : KE 6)]), N36, rfl, rfl, r36, (by simp; omega), (fun p hp => (mem_snoc hp).elim (fun h => At_OffsetFetchResponseTopicPartition.mono _ _ _ _ le_19 (pk2 p h)) (fun h => h ▸ At_OffsetFetchResponseTopicPartition.mono _ _ _ _ (Fz.le.refl _) gg34)), (map_take_snoc hk pk3), hin⟩
        exact (.cons rfl (.cons rfl (.cons rfl (.cons rfl (.cons rfl (.cons rfl (.nil _)))))))
      · skip
        obtain ⟨a, m, c_, es, N, rfl, rfl, pk0, pk1, pk2, pk3, pk4⟩ := hI
        refine toNn ?_
        have hm : m = (T.at 1).l.length := by have h1 := congrArg List.length pk3; rw [List.length_map, List.length_map, List.take_length] at h1; omega
        have hfe : es.map (·.2) = (T.at 1).l := by rw [pk3, List.take_length, List.map_id]
        refine frN pk0 .head (fun H2 hle2 hfz => ?_)
        have hrw := RowsAt.row (R := At_OffsetFetchResponseTopicPartition) hfz pk1 pk0.le.1 (fun p hp => At_OffsetFetchResponseTopicPartition.mono _ _ _ _ hle2 (pk2 p hp))
        rw [hfe, ← hlt] at hrw
        have hnl : m = (lT (T.at 1)).length := by rw [hlt]; exact hm
        have hla : ListAt H2 (T.at 1) 6 At_OffsetFetchResponseTopicPartition a c_ := ⟨hrw, by rw [pk4, hnu]⟩
        refine fun a_ w_ hA hw => ⟨_, _, _, hA.sub ?_, (le_10.trans hle2), hw, a, m, c_, rfl, rfl, hnl, hla⟩
        exact (.cons rfl (.cons rfl (.cons rfl (.nil _))))
    · skip
      have hnu : (T.at 1).nul = true := by simpa using h16
      refine skN ?_
      refine fun a_ w_ hA hw => ⟨_, _, _, hA.sub ?_, (Fz.le.refl _), hw, none, 0, 0, rfl, rfl, (by rw [lT_nul hnu]; rfl), (ListAt.none hnu)⟩
      exact (.cons rfl (.cons rfl (.cons rfl (.nil _))))
  · skip
    obtain ⟨a1, n1, c1, rfl, rfl, pj0, pj1⟩ := hI
    subst pj0
    have hf1 := pj1
    refine sq ?_
    refine sr ?_
    refine fa0 F39_4 rfl rfl ?_
    refine ld (Says.own (.tail (.tail .head))) Tryz.isAgg37 rfl (Nat.zero_add _).symm rfl rfl ?_
    refine ls Tryz.runUnderlying37 rfl rfl ?_
    refine mv rfl rfl ?_
    refine nl ?_
    refine nulC2 ?_
    have hun := hf.un
    refine fr (T.u.length) (fun q l' H' L' => ∃ (m : Option Nat), ∃ (kvs : List KV), ∃ (M : Chunk), [(2, .pointer (some ⟨b_2, 0, none⟩)), (3, .pointer (some ⟨b_3, 0, none⟩)), (40, .slice c.ua T.u.length c.uc), (41, .int .i64 (T.u.length : Int))] = l' ∧ M :: [(b_3, .cells [.string ⟨(T.at 0).s.toArray⟩, .slice a1 (lT (T.at 1)).length c1, .map m].toArray 98 (0, 0))] :: [(b_2, .cells [.string ⟨#[]⟩, .slice none 0 0, .map none].toArray 98 (0, 0))] :: [(b_1, .cells (c.cells T).toArray 39 (0, 0))] :: L = L' ∧ MapC m kvs M ∧ KvTo H' (T.u.take q) kvs) [(2, .pointer (some ⟨b_2, 0, none⟩)), (3, .pointer (some ⟨b_3, 0, none⟩)), (40, .slice c.ua T.u.length c.uc), (41, .int .i64 (T.u.length : Int))] (fun q l' H' L' h => ?_) (by omega) rfl (.cons rfl (.cons rfl (.cons rfl (.cons rfl (.nil _))))) ⟨none, [], [], rfl, rfl, MapC.nil, (KvTo.nil _)⟩ rfl rfl rfl rfl rfl (fun q l' H' L' hq le_21 hI => ?_) (fun l' H' L' le_22 hI => ?_)
    · obtain ⟨m, kvs, M, rfl, _⟩ := h; exact ⟨rfl, rfl, rfl, rfl⟩
    · skip
      obtain ⟨m, kvs, M, rfl, rfl, pq0, pq1⟩ := hI
      refine sr ?_
      obtain ⟨b_23, o_24, e_25, g_26⟩ := (hT.u.mono (le_6.trans le_21)).at_ (ne_nil_of_lt hq)
      obtain ⟨c_27, q_28, q_29⟩ := g_26 q hq
      refine ix2 Tryz.runUnderlying37 Tryz.sizeOf65 rfl e_25 rfl rfl hq rfl ?_
      refine la (Says.fz q_28) Tryz.isAgg65 Tryz.sizeOf65 rfl (Nat.add_zero _).symm rfl rfl ?_
      refine al Tryz.zeroValue65 rfl rfl (fun b_30 => ?_)
      refine sa Tryz.sizeOf65 rfl rfl rfl rfl rfl .head ?_
      refine nl ?_
      refine rg ?_
      refine fa0 F98_2 rfl rfl ?_
      refine fa0 F65_0 rfl rfl ?_
      refine ld (Says.own .head) Tryz.isAgg62 rfl (Nat.zero_add _).symm rfl rfl ?_
      refine fa0 F65_1 rfl rfl ?_
      refine ld (Says.own .head) Tryz.isAgg22 rfl (Nat.zero_add _).symm rfl rfl ?_
      refine tf (.tail (.tail .head)) ?_
      refine tf (.tail (.tail .head)) ?_
      refine cl rfl rfl rfl (t_set (cs := [.string ⟨(T.at 0).s.toArray⟩, .slice a1 (lT (T.at 1)).length c1, .map m]) (off := 2) pq0 rfl) rfl (fun v H1 L1 hle hR => ?_)
      obtain ⟨rfl, g51, cs51, hs51, rfl⟩ := hR
      obtain rfl : [.string ⟨(T.at 0).s.toArray⟩, .slice a1 (lT (T.at 1)).length c1, .map (some g51)] = cs51 := Option.some.inj hs51
      refine nN ?_
      refine Nb ?_
      refine drN (.tail (.tail .head)) ?_
      refine fun a_ w_ hA hw => ⟨_, _, _, hA.sub ?_, le_21, hw, _, rfl, _, _, [(g51, _)], rfl, rfl, (.inr ⟨g51, rfl, rfl⟩), (KvTo.put hf.u (List.getElem?_eq_getElem hq) pq1 (⟨⟨_, _, rfl, q_29.val⟩, q_29.lo, q_29.hi⟩))⟩
      exact (.cons rfl (.cons rfl (.cons rfl (.cons rfl (.cons rfl (.nil _))))))
    · skip
      obtain ⟨m, kvs, M, rfl, rfl, pq0, pq1⟩ := hI
      refine toWp ?_
      rw [List.take_length] at pq1
      refine frMW pq0 .head (fun H3 hle3 hmf => ?_)
      have hft := KvTo.at_ hf.u (pq1.mono hle3) hmf
      refine sr ?_
      refine la (Says.own .head) Tryz.isAgg98 Tryz.sizeOf98 rfl (Nat.zero_add _).symm rfl rfl ?_
      refine sa Tryz.sizeOf98 rfl rfl rfl rfl rfl (.tail .head) ?_
      refine nl ?_
      refine drW .head ?_
      refine drW (.tail .head) ?_
      exact rC rfl Tryz.isAgg98 Tryz.sizeOf98 rfl .head rfl (le_6.trans (le_22.trans hle3)) (fun _ _ h => h) ⟨rfl, _, rfl, ⟨a1, c1, m, rfl, (hf1.mono At_OffsetFetchResponseTopicPartition.mono (le_22.trans hle3)), hft⟩⟩
theorem make_OffsetFetchResponseGroupTopicPartition {H : Fz} {L : Own} {c : TC} {T : Tr} (hT : TreeAt H c T) (hf : Fine T) :
    Fn Tryz.prog 142 [.agg (c.cells T).toArray] H L (fun v H' L' => L = L' ∧ ∃ cs : List Value, v = .agg cs.toArray ∧ At_OffsetFetchResponseGroupTopicPartition H' T cs) := by
  refine Fn.mk Tryz.call142 Tryz.func142 rfl Tryz.ntmps142 rfl ?_
  refine sr ?_
  refine bx rfl rfl rfl (fun b_1 => ?_)
  refine al Tryz.zeroValue125 rfl rfl (fun b_2 => ?_)
  refine nl ?_
  refine sr ?_
  refine al Tryz.zeroValue125 rfl rfl (fun b_3 => ?_)
  refine nl ?_
  refine sr ?_
  refine la (Says.own (.tail (.tail .head))) Tryz.isAgg39 Tryz.sizeOf39 rfl (Nat.zero_add _).symm rfl rfl ?_
  refine cl rfl rfl rfl (m_at (i := 0) hT) rfl (fun v H1 L1 hle hR => ?_)
  obtain ⟨rfl, rfl, c7, rfl, g7⟩ := hR
  refine fc C39_0 rfl rfl rfl ?_
  refine cv Tryz.runUnderlying2 Tryz.runUnderlying21 rfl rfl rfl ?_
  refine fa0 F125_0 rfl rfl ?_
  refine st Tryz.sizeOf21 rfl rfl rfl rfl .head ?_
  refine nl ?_
  refine sr ?_
  refine la (Says.own (.tail (.tail .head))) Tryz.isAgg39 Tryz.sizeOf39 rfl (Nat.zero_add _).symm rfl rfl ?_
  refine cl rfl rfl rfl (m_at (i := 1) hT) rfl (fun v H1 L1 hle hR => ?_)
  obtain ⟨rfl, rfl, c12, rfl, g12⟩ := hR
  refine fc C39_0 rfl rfl rfl ?_
  refine fa0 F125_1 rfl rfl ?_
  refine st Tryz.sizeOf2 rfl rfl rfl rfl .head ?_
  refine nl ?_
  refine sr ?_
  refine la (Says.own (.tail (.tail .head))) Tryz.isAgg39 Tryz.sizeOf39 rfl (Nat.zero_add _).symm rfl rfl ?_
  refine cl rfl rfl rfl (m_at (i := 2) hT) rfl (fun v H1 L1 hle hR => ?_)
  obtain ⟨rfl, rfl, c16, rfl, g16⟩ := hR
  refine fc C39_0 rfl rfl rfl ?_
  refine cv Tryz.runUnderlying2 Tryz.runUnderlying21 rfl rfl rfl ?_
  refine fa0 F125_2 rfl rfl ?_
  refine st Tryz.sizeOf21 rfl rfl rfl rfl .head ?_
  refine nl ?_
  refine sr ?_
  refine la (Says.own (.tail (.tail .head))) Tryz.isAgg39 Tryz.sizeOf39 rfl (Nat.zero_add _).symm rfl rfl ?_
  refine cl rfl rfl rfl (m_at (i := 3) hT) rfl (fun v H1 L1 hle hR => ?_)
  obtain ⟨rfl, rfl, c21, rfl, g21⟩ := hR
  refine cl rfl rfl rfl (m_textOf g21) rfl (fun v H1 L1 le_8 hR => ?_)
  obtain ⟨rfl, p3, rfl, hf3⟩ := hR
  refine fa0 F125_3 rfl rfl ?_
  refine st Tryz.sizeOf110 rfl rfl rfl rfl .head ?_
  refine nl ?_
  refine sr ?_
  refine la (Says.own (.tail (.tail .head))) Tryz.isAgg39 Tryz.sizeOf39 rfl (Nat.zero_add _).symm rfl rfl ?_
  refine cl rfl rfl rfl (m_at (i := 4) (hT.mono le_8)) rfl (fun v H1 L1 hle hR => ?_)
  obtain ⟨rfl, rfl, c25, rfl, g25⟩ := hR
  refine fc C39_0 rfl rfl rfl ?_
  refine cv Tryz.runUnderlying2 Tryz.runUnderlying45 rfl rfl rfl ?_
  refine fa0 F125_4 rfl rfl ?_
  refine st Tryz.sizeOf45 rfl rfl rfl rfl .head ?_
  refine nl ?_
  refine sq ?_
  refine sr ?_
  refine fa0 F39_4 rfl rfl ?_
  refine ld (Says.own (.tail (.tail .head))) Tryz.isAgg37 rfl (Nat.zero_add _).symm rfl rfl ?_
  refine ls Tryz.runUnderlying37 rfl rfl ?_
  refine mv rfl rfl ?_
  refine nl ?_
  refine nulC2 ?_
  have hun := hf.un
  refine fr (T.u.length) (fun q l' H' L' => ∃ (m : Option Nat), ∃ (kvs : List KV), ∃ (M : Chunk), [(2, .pointer (some ⟨b_2, 0, none⟩)), (3, .pointer (some ⟨b_3, 0, none⟩)), (30, .slice c.ua T.u.length c.uc), (31, .int .i64 (T.u.length : Int))] = l' ∧ M :: [(b_3, .cells [.int .i32 (IntKind.i32.wrap (T.at 0).n), .int .i64 (T.at 1).n, .int .i32 (IntKind.i32.wrap (T.at 2).n), .pointer p3, .int .i16 (IntKind.i16.wrap (T.at 4).n), .map m].toArray 125 (0, 0))] :: [(b_2, .cells [.int .i32 0, .int .i64 0, .int .i32 0, .pointer none, .int .i16 0, .map none].toArray 125 (0, 0))] :: [(b_1, .cells (c.cells T).toArray 39 (0, 0))] :: L = L' ∧ MapC m kvs M ∧ KvTo H' (T.u.take q) kvs) [(2, .pointer (some ⟨b_2, 0, none⟩)), (3, .pointer (some ⟨b_3, 0, none⟩)), (30, .slice c.ua T.u.length c.uc), (31, .int .i64 (T.u.length : Int))] (fun q l' H' L' h => ?_) (by omega) rfl (.cons rfl (.cons rfl (.cons rfl (.cons rfl (.nil _))))) ⟨none, [], [], rfl, rfl, MapC.nil, (KvTo.nil _)⟩ rfl rfl rfl rfl rfl (fun q l' H' L' hq le_10 hI => ?_) (fun l' H' L' le_11 hI => ?_)
  · obtain ⟨m, kvs, M, rfl, _⟩ := h; exact ⟨rfl, rfl, rfl, rfl⟩
  · skip
    obtain ⟨m, kvs, M, rfl, rfl, pq0, pq1⟩ := hI
    refine sr ?_
    obtain ⟨b_12, o_13, e_14, g_15⟩ := (hT.u.mono (le_8.trans le_10)).at_ (ne_nil_of_lt hq)
    obtain ⟨c_16, q_17, q_18⟩ := g_15 q hq
    refine ix2 Tryz.runUnderlying37 Tryz.sizeOf65 rfl e_14 rfl rfl hq rfl ?_
    refine la (Says.fz q_17) Tryz.isAgg65 Tryz.sizeOf65 rfl (Nat.add_zero _).symm rfl rfl ?_
    refine al Tryz.zeroValue65 rfl rfl (fun b_19 => ?_)
    refine sa Tryz.sizeOf65 rfl rfl rfl rfl rfl .head ?_
    refine nl ?_
    refine rg ?_
    refine fa0 F125_5 rfl rfl ?_
    refine fa0 F65_0 rfl rfl ?_
    refine ld (Says.own .head) Tryz.isAgg62 rfl (Nat.zero_add _).symm rfl rfl ?_
    refine fa0 F65_1 rfl rfl ?_
    refine ld (Says.own .head) Tryz.isAgg22 rfl (Nat.zero_add _).symm rfl rfl ?_
    refine tf (.tail (.tail .head)) ?_
    refine tf (.tail (.tail .head)) ?_
    refine cl rfl rfl rfl (t_set (cs := [.int .i32 (IntKind.i32.wrap (T.at 0).n), .int .i64 (T.at 1).n, .int .i32 (IntKind.i32.wrap (T.at 2).n), .pointer p3, .int .i16 (IntKind.i16.wrap (T.at 4).n), .map m]) (off := 5) pq0 rfl) rfl (fun v H1 L1 hle hR => ?_)
    obtain ⟨rfl, g41, cs41, hs41, rfl⟩ := hR
    obtain rfl : [.int .i32 (IntKind.i32.wrap (T.at 0).n), .int .i64 (T.at 1).n, .int .i32 (IntKind.i32.wrap (T.at 2).n), .pointer p3, .int .i16 (IntKind.i16.wrap (T.at 4).n), .map (some g41)] = cs41 := Option.some.inj hs41
    refine nN ?_
    refine Nb ?_
    refine drN (.tail (.tail .head)) ?_
    refine fun a_ w_ hA hw => ⟨_, _, _, hA.sub ?_, le_10, hw, _, rfl, _, _, [(g41, _)], rfl, rfl, (.inr ⟨g41, rfl, rfl⟩), (KvTo.put hf.u (List.getElem?_eq_getElem hq) pq1 (⟨⟨_, _, rfl, q_18.val⟩, q_18.lo, q_18.hi⟩))⟩
    exact (.cons rfl (.cons rfl (.cons rfl (.cons rfl (.cons rfl (.nil _))))))
  · skip
    obtain ⟨m, kvs, M, rfl, rfl, pq0, pq1⟩ := hI
    refine toWp ?_
    rw [List.take_length] at pq1
    refine frMW pq0 .head (fun H3 hle3 hmf => ?_)
    have hft := KvTo.at_ hf.u (pq1.mono hle3) hmf
    refine sr ?_
    refine la (Says.own .head) Tryz.isAgg125 Tryz.sizeOf125 rfl (Nat.zero_add _).symm rfl rfl ?_
    refine sa Tryz.sizeOf125 rfl rfl rfl rfl rfl (.tail .head) ?_
    refine nl ?_
    refine drW .head ?_
    refine drW (.tail .head) ?_
    exact rC rfl Tryz.isAgg125 Tryz.sizeOf125 rfl .head rfl (le_8.trans (le_11.trans hle3)) (fun _ _ h => h) ⟨rfl, _, rfl, ⟨p3, m, rfl, (hf3.mono (le_11.trans hle3)), hft⟩⟩
theorem make_OffsetFetchResponseGroupTopic {H : Fz} {L : Own} {c : TC} {T : Tr} (hT : TreeAt H c T) (hf : Fine T) :
    Fn Tryz.prog 117 [.agg (c.cells T).toArray] H L (fun v H' L' => L = L' ∧ ∃ cs : List Value, v = .agg cs.toArray ∧ At_OffsetFetchResponseGroupTopic H' T cs) := by
  refine Fn.mk Tryz.call117 Tryz.func117 rfl Tryz.ntmps117 rfl ?_
  refine sr ?_
  refine bx rfl rfl rfl (fun b_1 => ?_)
  refine al Tryz.zeroValue122 rfl rfl (fun b_2 => ?_)
  refine nl ?_
  refine sr ?_
  refine al Tryz.zeroValue122 rfl rfl (fun b_3 => ?_)
  refine nl ?_
  refine sr ?_
  refine la (Says.own (.tail (.tail .head))) Tryz.isAgg39 Tryz.sizeOf39 rfl (Nat.zero_add _).symm rfl rfl ?_
  refine cl rfl rfl rfl (m_at (i := 0) hT) rfl (fun v H1 L1 hle hR => ?_)
  obtain ⟨rfl, rfl, c9, rfl, g9⟩ := hR
  refine fc C39_1 rfl rfl rfl ?_
  refine cbS Tryz.underlying22 Tryz.underlying5 Tryz.underlying9 rfl g9.s rfl rfl ?_
  refine fa0 F122_0 rfl rfl ?_
  refine st Tryz.sizeOf9 rfl rfl rfl rfl .head ?_
  refine nl ?_
  refine sr ?_
  refine la (Says.own (.tail (.tail .head))) Tryz.isAgg39 Tryz.sizeOf39 rfl (Nat.zero_add _).symm rfl rfl ?_
  refine cl rfl rfl rfl (m_at (i := 1) hT) rfl (fun v H1 L1 hle hR => ?_)
  obtain ⟨rfl, rfl, c14, rfl, g14⟩ := hR
  refine fc C39_1 rfl rfl rfl ?_
  refine cl rfl rfl rfl (m_sixteen g14.s) rfl (fun v H1 L1 hle hR => ?_)
  obtain ⟨rfl, rfl, rfl⟩ := hR
  refine fa0 F122_1 rfl rfl ?_
  refine sa Tryz.sizeOf119 rfl rfl rfl rfl rfl .head ?_
  refine nl ?_
  refine sq ?_
  refine sr ?_
  refine la (Says.own (.tail (.tail .head))) Tryz.isAgg39 Tryz.sizeOf39 rfl (Nat.zero_add _).symm rfl rfl ?_
  refine cl rfl rfl rfl (m_at (i := 2) hT) rfl (fun v H1 L1 hle hR => ?_)
  obtain ⟨rfl, rfl, c19, rfl, g19⟩ := hR
  refine fc C39_2 rfl rfl rfl ?_
  refine nt rfl rfl ?_
  refine nl ?_
  refine cutT (fun l' H' L' => ∃ (a2 : Option Addr), ∃ (n2 : Nat), ∃ (c2 : Nat), [(1, .pointer (some ⟨b_1, 0, none⟩)), (2, .pointer (some ⟨b_2, 0, none⟩)), (3, .pointer (some ⟨b_3, 0, none⟩))] = l' ∧ [(b_3, .cells [.string ⟨(T.at 0).s.toArray⟩, ub (T.at 1).s 0, ub (T.at 1).s 1, ub (T.at 1).s 2, ub (T.at 1).s 3, ub (T.at 1).s 4, ub (T.at 1).s 5, ub (T.at 1).s 6, ub (T.at 1).s 7, ub (T.at 1).s 8, ub (T.at 1).s 9, ub (T.at 1).s 10, ub (T.at 1).s 11, ub (T.at 1).s 12, ub (T.at 1).s 13, ub (T.at 1).s 14, ub (T.at 1).s 15, .slice a2 n2 c2, .map none].toArray 122 (0, 0))] :: [(b_2, .cells [.string ⟨#[]⟩, .int .u8 0, .int .u8 0, .int .u8 0, .int .u8 0, .int .u8 0, .int .u8 0, .int .u8 0, .int .u8 0, .int .u8 0, .int .u8 0, .int .u8 0, .int .u8 0, .int .u8 0, .int .u8 0, .int .u8 0, .int .u8 0, .slice none 0 0, .map none].toArray 122 (0, 0))] :: [(b_1, .cells (c.cells T).toArray 39 (0, 0))] :: L = L' ∧ n2 = (lT (T.at 2)).length ∧ ListAt H' (T.at 2) 6 At_OffsetFetchResponseGroupTopicPartition a2 c2) ?_ (fun l' H' L' le_8 hI => ?_)
  · skip
    refine cb rfl (fun h21 => ?_) (fun h21 => ?_)
    · skip
      have hnu : (T.at 2).nul = false := by simpa using h21
      have hlt : lT (T.at 2) = (T.at 2).l := lT_not hnu
      have hfl := (hf.at 2).len
      refine sr ?_
      refine la (Says.own (.tail (.tail .head))) Tryz.isAgg39 Tryz.sizeOf39 rfl (Nat.zero_add _).symm rfl rfl ?_
      refine cl rfl rfl rfl (m_at (i := 2) hT) rfl (fun v H1 L1 hle hR => ?_)
      obtain ⟨rfl, rfl, c23, rfl, g23⟩ := hR
      refine fc C39_3 rfl rfl rfl ?_
      refine ls Tryz.runUnderlying36 rfl rfl ?_
      refine mks (m := 0) (c := (T.at 2).l.length) (zs := [.int .i32 0, .int .i64 0, .int .i32 0, .pointer none, .int .i16 0, .map none]) Tryz.underlying120 I125 rfl rfl rfl rfl rfl (by omega) (by omega) (by unfold maxLen; omega) rfl (fun bm26 N26 r26 => ?_)
      refine fa0 F122_2 rfl rfl ?_
      refine st Tryz.sizeOf120 rfl rfl rfl rfl (.tail .head) ?_
      refine nl ?_
      refine sr ?_
      refine la (Says.own (.tail (.tail (.tail .head)))) Tryz.isAgg39 Tryz.sizeOf39 rfl (Nat.zero_add _).symm rfl rfl ?_
      refine cl rfl rfl rfl (m_at (i := 2) hT) rfl (fun v H1 L1 hle hR => ?_)
      obtain ⟨rfl, rfl, c29, rfl, g29⟩ := hR
      refine fc C39_3 rfl rfl rfl ?_
      refine ls Tryz.runUnderlying36 rfl rfl ?_
      refine mv rfl rfl ?_
      refine nl ?_
      refine fr ((T.at 2).l.length) (fun k l' H' L' => ∃ (a : Option Addr), ∃ (m : Nat), ∃ (c_ : Nat), ∃ (es : List (KE 6)), ∃ (N : Chunk), [(1, .pointer (some ⟨b_1, 0, none⟩)), (2, .pointer (some ⟨b_2, 0, none⟩)), (3, .pointer (some ⟨b_3, 0, none⟩)), (30, .slice c29.la (T.at 2).l.length c29.lc), (31, .int .i64 ((T.at 2).l.length : Int))] = l' ∧ N :: [(b_3, .cells [.string ⟨(T.at 0).s.toArray⟩, ub (T.at 1).s 0, ub (T.at 1).s 1, ub (T.at 1).s 2, ub (T.at 1).s 3, ub (T.at 1).s 4, ub (T.at 1).s 5, ub (T.at 1).s 6, ub (T.at 1).s 7, ub (T.at 1).s 8, ub (T.at 1).s 9, ub (T.at 1).s 10, ub (T.at 1).s 11, ub (T.at 1).s 12, ub (T.at 1).s 13, ub (T.at 1).s 14, ub (T.at 1).s 15, .slice a m c_, .map none].toArray 122 (0, 0))] :: [(b_2, .cells [.string ⟨#[]⟩, .int .u8 0, .int .u8 0, .int .u8 0, .int .u8 0, .int .u8 0, .int .u8 0, .int .u8 0, .int .u8 0, .int .u8 0, .int .u8 0, .int .u8 0, .int .u8 0, .int .u8 0, .int .u8 0, .int .u8 0, .int .u8 0, .slice none 0 0, .map none].toArray 122 (0, 0))] :: [(b_1, .cells (c.cells T).toArray 39 (0, 0))] :: L = L' ∧ Row 125 6 a m c_ (es.flatMap fk) N ∧ m = es.length ∧ (∀ p : KE 6, p ∈ es → At_OffsetFetchResponseGroupTopicPartition H' p.2 (fk p)) ∧ es.map (·.2) = ((T.at 2).l.take k).map id ∧ a.isNone = false) [(1, .pointer (some ⟨b_1, 0, none⟩)), (2, .pointer (some ⟨b_2, 0, none⟩)), (3, .pointer (some ⟨b_3, 0, none⟩)), (30, .slice c29.la (T.at 2).l.length c29.lc), (31, .int .i64 ((T.at 2).l.length : Int))] (fun k l' H' L' h => ?_) (by omega) rfl (.cons rfl (.cons rfl (.cons rfl (.cons rfl (.cons rfl (.nil _)))))) ⟨some ⟨bm26, 0, none⟩, 0, _, [], N26, rfl, rfl, r26, rfl, (fun p hp => by cases hp), (by simp), rfl⟩ rfl rfl rfl rfl rfl (fun k l' H' L' hk le_11 hI => ?_) (fun l' H' L' le_12 hI => ?_)
      · obtain ⟨a, m, c_, es, N, rfl, _⟩ := h; exact ⟨rfl, rfl, rfl, rfl⟩
      · skip
        obtain ⟨a, m, c_, es, N, rfl, rfl, pk0, pk1, pk2, pk3, pk4⟩ := hI
        refine sr ?_
        obtain ⟨b_13, o_14, e_15, g_16⟩ := (g29.l.mono le_11).at_ (ne_nil_of_lt hk)
        obtain ⟨c_17, q_18, q_19⟩ := g_16 k hk
        refine ix2 Tryz.runUnderlying36 Tryz.sizeOf39 rfl e_15 rfl rfl hk rfl ?_
        refine la (Says.fz q_18) Tryz.isAgg39 Tryz.sizeOf39 rfl (Nat.add_zero _).symm rfl rfl ?_
        refine al Tryz.zeroValue39 rfl rfl (fun b_20 => ?_)
        refine sa Tryz.sizeOf39 rfl rfl rfl rfl rfl .head ?_
        refine nl ?_
        refine rgD 7 (.keep (.skip (.keep (.keep (.keep .nil))))) mixed ?_
        refine dT 0 rfl rfl rfl (by kernel_rfl) (fun _ _ _ h => h) (y_fa0 F122_2 rfl) (.keep (.skip (.keep (.keep (.keep .nil))))) (Fz.le.refl _) ?_
        refine dT 1 rfl rfl rfl (by kernel_rfl) (fun _ _ _ h => h) (y_ld (Says.own (.tail .head)) Tryz.isAgg120 rfl (Nat.zero_add _).symm rfl) (.keep (.skip (.keep (.keep (.keep .nil))))) (Fz.le.refl _) ?_
        refine dT 2 rfl rfl rfl (by kernel_rfl) (fun _ _ _ h => h) (y_la (Says.own .head) Tryz.isAgg39 Tryz.sizeOf39 rfl (Nat.zero_add _).symm rfl) (.keep (.skip (.keep (.keep (.keep .nil))))) (Fz.le.refl _) ?_
        refine dE 3 (by kernel_rfl) rfl ?_
        refine cl rfl rfl rfl (make_OffsetFetchResponseGroupTopicPartition q_19 ((hf.at 2).el (List.getElem_mem hk))) rfl (fun v H1 L1 le_21 hR => ?_)
        obtain ⟨rfl, cs39, rfl, g39⟩ := hR
        have ho39 := At_OffsetFetchResponseGroupTopicPartition.ok g39
        have gg39 := g39
        obtain ⟨p3e, mte, rfl, he0, he1⟩ := g39
        refine dN (.keep (.skip (.keep (.keep (.keep .nil))))) le_21 ?_
        refine dE 4 (by kernel_rfl) rfl ?_
        refine bs' L120 rfl rfl rfl rfl (fun b_22 => ?_)
        refine dN (.skip (.keep (.skip (.keep (.keep (.keep .nil)))))) le_21 ?_
        refine dE 5 (by kernel_rfl) rfl ?_
        have hmk : m = k := by have h1 := congrArg List.length pk3; rw [List.length_map, List.length_map, List.length_take] at h1; omega
        refine ap (news := fk ((⟨_, ho39⟩, (T.at 2).l[k]) : KE 6)) Tryz.underlying120 I125 rfl rfl pk0 (fun _ => (.tail (.tail .head))) (src_says Tryz.underlying120 rfl (fun _ => Says.own .head) (fk_one _)) (by omega) (by unfold maxLen; omega) rfl (fun a41 c41 N41 r41 z41 => ?_)
        rw [flatMap_snoc'] at r41
        have hin : a41.isNone = false := by cases a41 with | none => have := z41.1 rfl; omega | some _ => rfl
        refine dN (.skip (.keep (.skip (.keep (.keep (.keep .nil)))))) le_21 ?_
        refine dT 6 rfl rfl rfl (by kernel_rfl) (fun _ _ _ h => h) (y_fa0 F122_2 rfl) (.skip (.keep (.skip (.keep (.keep (.keep .nil)))))) le_21 ?_
        refine dE 7 (by kernel_rfl) rfl ?_
        refine st Tryz.sizeOf120 rfl rfl rfl rfl (.tail (.tail (.tail .head))) ?_
        refine dNk (by kernel_rfl) ?_
        refine dD (by kernel_rfl) ?_
        refine Nb ?_
        refine drN .head ?_
        refine drN .head ?_
        refine fun a_ w_ hA hw => ⟨_, _, _, hA.sub ?_, (le_11.trans le_21), hw, _, rfl, a41, _, c41, (es ++ [((⟨_, ho39⟩, (T.at 2).l[k]) : KE 6)]), N41, rfl, rfl, r41, (by simp; omega), (fun p hp => (mem_snoc hp).elim (fun h => At_OffsetFetchResponseGroupTopicPartition.mono _ _ _ _ le_21 (pk2 p h)) (fun h => h ▸ At_OffsetFetchResponseGroupTopicPartition.mono _ _ _ _ (Fz.le.refl _) gg39)), (map_take_snoc hk pk3), hin⟩
        exact (.cons rfl (.cons rfl (.cons rfl (.cons rfl (.cons rfl (.cons rfl (.nil _)))))))
      · skip
        obtain ⟨a, m, c_, es, N, rfl, rfl, pk0, pk1, pk2, pk3, pk4⟩ := hI
        refine toNn ?_
        have hm : m = (T.at 2).l.length := by have h1 := congrArg List.length pk3; rw [List.length_map, List.length_map, List.take_length] at h1; omega
        have hfe : es.map (·.2) = (T.at 2).l := by rw [pk3, List.take_length, List.map_id]
        refine frN pk0 .head (fun H2 hle2 hfz => ?_)
        have hrw := RowsAt.row (R := At_OffsetFetchResponseGroupTopicPartition) hfz pk1 pk0.le.1 (fun p hp => At_OffsetFetchResponseGroupTopicPartition.mono _ _ _ _ hle2 (pk2 p hp))
        rw [hfe, ← hlt] at hrw
        have hnl : m = (lT (T.at 2)).length := by rw [hlt]; exact hm
        have hla : ListAt H2 (T.at 2) 6 At_OffsetFetchResponseGroupTopicPartition a c_ := ⟨hrw, by rw [pk4, hnu]⟩
        refine fun a_ w_ hA hw => ⟨_, _, _, hA.sub ?_, (le_12.trans hle2), hw, a, m, c_, rfl, rfl, hnl, hla⟩
        exact (.cons rfl (.cons rfl (.cons rfl (.nil _))))
    · skip
      have hnu : (T.at 2).nul = true := by simpa using h21
      refine skN ?_
      refine fun a_ w_ hA hw => ⟨_, _, _, hA.sub ?_, (Fz.le.refl _), hw, none, 0, 0, rfl, rfl, (by rw [lT_nul hnu]; rfl), (ListAt.none hnu)⟩
      exact (.cons rfl (.cons rfl (.cons rfl (.nil _))))
  · skip
    obtain ⟨a2, n2, c2, rfl, rfl, pj0, pj1⟩ := hI
    subst pj0
    have hf2 := pj1
    refine sq ?_
    refine sr ?_
    refine fa0 F39_4 rfl rfl ?_
    refine ld (Says.own (.tail (.tail .head))) Tryz.isAgg37 rfl (Nat.zero_add _).symm rfl rfl ?_
    refine ls Tryz.runUnderlying37 rfl rfl ?_
    refine mv rfl rfl ?_
    refine nl ?_
    refine nulC2 ?_
    have hun := hf.un
    refine fr (T.u.length) (fun q l' H' L' => ∃ (m : Option Nat), ∃ (kvs : List KV), ∃ (M : Chunk), [(2, .pointer (some ⟨b_2, 0, none⟩)), (3, .pointer (some ⟨b_3, 0, none⟩)), (45, .slice c.ua T.u.length c.uc), (46, .int .i64 (T.u.length : Int))] = l' ∧ M :: [(b_3, .cells [.string ⟨(T.at 0).s.toArray⟩, ub (T.at 1).s 0, ub (T.at 1).s 1, ub (T.at 1).s 2, ub (T.at 1).s 3, ub (T.at 1).s 4, ub (T.at 1).s 5, ub (T.at 1).s 6, ub (T.at 1).s 7, ub (T.at 1).s 8, ub (T.at 1).s 9, ub (T.at 1).s 10, ub (T.at 1).s 11, ub (T.at 1).s 12, ub (T.at 1).s 13, ub (T.at 1).s 14, ub (T.at 1).s 15, .slice a2 (lT (T.at 2)).length c2, .map m].toArray 122 (0, 0))] :: [(b_2, .cells [.string ⟨#[]⟩, .int .u8 0, .int .u8 0, .int .u8 0, .int .u8 0, .int .u8 0, .int .u8 0, .int .u8 0, .int .u8 0, .int .u8 0, .int .u8 0, .int .u8 0, .int .u8 0, .int .u8 0, .int .u8 0, .int .u8 0, .int .u8 0, .slice none 0 0, .map none].toArray 122 (0, 0))] :: [(b_1, .cells (c.cells T).toArray 39 (0, 0))] :: L = L' ∧ MapC m kvs M ∧ KvTo H' (T.u.take q) kvs) [(2, .pointer (some ⟨b_2, 0, none⟩)), (3, .pointer (some ⟨b_3, 0, none⟩)), (45, .slice c.ua T.u.length c.uc), (46, .int .i64 (T.u.length : Int))] (fun q l' H' L' h => ?_) (by omega) rfl (.cons rfl (.cons rfl (.cons rfl (.cons rfl (.nil _))))) ⟨none, [], [], rfl, rfl, MapC.nil, (KvTo.nil _)⟩ rfl rfl rfl rfl rfl (fun q l' H' L' hq le_23 hI => ?_) (fun l' H' L' le_24 hI => ?_)
    · obtain ⟨m, kvs, M, rfl, _⟩ := h; exact ⟨rfl, rfl, rfl, rfl⟩
    · skip
      obtain ⟨m, kvs, M, rfl, rfl, pq0, pq1⟩ := hI
      refine sr ?_
      obtain ⟨b_25, o_26, e_27, g_28⟩ := (hT.u.mono (le_8.trans le_23)).at_ (ne_nil_of_lt hq)
      obtain ⟨c_29, q_30, q_31⟩ := g_28 q hq
      refine ix2 Tryz.runUnderlying37 Tryz.sizeOf65 rfl e_27 rfl rfl hq rfl ?_
      refine la (Says.fz q_30) Tryz.isAgg65 Tryz.sizeOf65 rfl (Nat.add_zero _).symm rfl rfl ?_
      refine al Tryz.zeroValue65 rfl rfl (fun b_32 => ?_)
      refine sa Tryz.sizeOf65 rfl rfl rfl rfl rfl .head ?_
      refine nl ?_
      refine rg ?_
      refine fa0 F122_3 rfl rfl ?_
      refine fa0 F65_0 rfl rfl ?_
      refine ld (Says.own .head) Tryz.isAgg62 rfl (Nat.zero_add _).symm rfl rfl ?_
      refine fa0 F65_1 rfl rfl ?_
      refine ld (Says.own .head) Tryz.isAgg22 rfl (Nat.zero_add _).symm rfl rfl ?_
      refine tf (.tail (.tail .head)) ?_
      refine tf (.tail (.tail .head)) ?_
      refine cl rfl rfl rfl (t_set (cs := [.string ⟨(T.at 0).s.toArray⟩, ub (T.at 1).s 0, ub (T.at 1).s 1, ub (T.at 1).s 2, ub (T.at 1).s 3, ub (T.at 1).s 4, ub (T.at 1).s 5, ub (T.at 1).s 6, ub (T.at 1).s 7, ub (T.at 1).s 8, ub (T.at 1).s 9, ub (T.at 1).s 10, ub (T.at 1).s 11, ub (T.at 1).s 12, ub (T.at 1).s 13, ub (T.at 1).s 14, ub (T.at 1).s 15, .slice a2 (lT (T.at 2)).length c2, .map m]) (off := 18) pq0 rfl) rfl (fun v H1 L1 hle hR => ?_)
      obtain ⟨rfl, g56, cs56, hs56, rfl⟩ := hR
      obtain rfl : [.string ⟨(T.at 0).s.toArray⟩, ub (T.at 1).s 0, ub (T.at 1).s 1, ub (T.at 1).s 2, ub (T.at 1).s 3, ub (T.at 1).s 4, ub (T.at 1).s 5, ub (T.at 1).s 6, ub (T.at 1).s 7, ub (T.at 1).s 8, ub (T.at 1).s 9, ub (T.at 1).s 10, ub (T.at 1).s 11, ub (T.at 1).s 12, ub (T.at 1).s 13, ub (T.at 1).s 14, ub (T.at 1).s 15, .slice a2 (lT (T.at 2)).length c2, .map (some g56)] = cs56 := Option.some.inj hs56
      refine nN ?_
      refine Nb ?_
      refine drN (.tail (.tail .head)) ?_
      refine fun a_ w_ hA hw => ⟨_, _, _, hA.sub ?_, le_23, hw, _, rfl, _, _, [(g56, _)], rfl, rfl, (.inr ⟨g56, rfl, rfl⟩), (KvTo.put hf.u (List.getElem?_eq_getElem hq) pq1 (⟨⟨_, _, rfl, q_31.val⟩, q_31.lo, q_31.hi⟩))⟩
      exact (.cons rfl (.cons rfl (.cons rfl (.cons rfl (.cons rfl (.nil _))))))
    · skip
      obtain ⟨m, kvs, M, rfl, rfl, pq0, pq1⟩ := hI
      refine toWp ?_
      rw [List.take_length] at pq1
      refine frMW pq0 .head (fun H3 hle3 hmf => ?_)
      have hft := KvTo.at_ hf.u (pq1.mono hle3) hmf
      refine sr ?_
      refine la (Says.own .head) Tryz.isAgg122 Tryz.sizeOf122 rfl (Nat.zero_add _).symm rfl rfl ?_
      refine sa Tryz.sizeOf122 rfl rfl rfl rfl rfl (.tail .head) ?_
      refine nl ?_
      refine drW .head ?_
      refine drW (.tail .head) ?_
      exact rC rfl Tryz.isAgg122 Tryz.sizeOf122 rfl .head rfl (le_8.trans (le_24.trans hle3)) (fun _ _ h => h) ⟨rfl, _, rfl, ⟨a2, c2, m, rfl, (hf2.mono At_OffsetFetchResponseGroupTopicPartition.mono (le_24.trans hle3)), hft⟩⟩
theorem make_OffsetFetchResponseGroup {H : Fz} {L : Own} {c : TC} {T : Tr} (hT : TreeAt H c T) (hf : Fine T) :
    Fn Tryz.prog 65 [.agg (c.cells T).toArray] H L (fun v H' L' => L = L' ∧ ∃ cs : List Value, v = .agg cs.toArray ∧ At_OffsetFetchResponseGroup H' T cs) := by
  refine Fn.mk Tryz.call65 Tryz.func65 rfl Tryz.ntmps65 rfl ?_
  refine sr ?_
  refine bx rfl rfl rfl (fun b_1 => ?_)
  refine al Tryz.zeroValue102 rfl rfl (fun b_2 => ?_)
  refine nl ?_
  refine sr ?_
  refine al Tryz.zeroValue102 rfl rfl (fun b_3 => ?_)
  refine nl ?_
  refine sr ?_
  refine la (Says.own (.tail (.tail .head))) Tryz.isAgg39 Tryz.sizeOf39 rfl (Nat.zero_add _).symm rfl rfl ?_
  refine cl rfl rfl rfl (m_at (i := 0) hT) rfl (fun v H1 L1 hle hR => ?_)
  obtain ⟨rfl, rfl, c9, rfl, g9⟩ := hR
  refine fc C39_1 rfl rfl rfl ?_
  refine cbS Tryz.underlying22 Tryz.underlying5 Tryz.underlying9 rfl g9.s rfl rfl ?_
  refine fa0 F102_0 rfl rfl ?_
  refine st Tryz.sizeOf9 rfl rfl rfl rfl .head ?_
  refine nl ?_
  refine sq ?_
  refine sr ?_
  refine la (Says.own (.tail (.tail .head))) Tryz.isAgg39 Tryz.sizeOf39 rfl (Nat.zero_add _).symm rfl rfl ?_
  refine cl rfl rfl rfl (m_at (i := 1) hT) rfl (fun v H1 L1 hle hR => ?_)
  obtain ⟨rfl, rfl, c14, rfl, g14⟩ := hR
  refine fc C39_2 rfl rfl rfl ?_
  refine nt rfl rfl ?_
  refine nl ?_
  refine cutT (fun l' H' L' => ∃ (a1 : Option Addr), ∃ (n1 : Nat), ∃ (c1 : Nat), [(1, .pointer (some ⟨b_1, 0, none⟩)), (2, .pointer (some ⟨b_2, 0, none⟩)), (3, .pointer (some ⟨b_3, 0, none⟩))] = l' ∧ [(b_3, .cells [.string ⟨(T.at 0).s.toArray⟩, .slice a1 n1 c1, .int .i16 0, .map none].toArray 102 (0, 0))] :: [(b_2, .cells [.string ⟨#[]⟩, .slice none 0 0, .int .i16 0, .map none].toArray 102 (0, 0))] :: [(b_1, .cells (c.cells T).toArray 39 (0, 0))] :: L = L' ∧ n1 = (lT (T.at 1)).length ∧ ListAt H' (T.at 1) 19 At_OffsetFetchResponseGroupTopic a1 c1) ?_ (fun l' H' L' le_6 hI => ?_)
  · skip
    refine cb rfl (fun h16 => ?_) (fun h16 => ?_)
    · skip
      have hnu : (T.at 1).nul = false := by simpa using h16
      have hlt : lT (T.at 1) = (T.at 1).l := lT_not hnu
      have hfl := (hf.at 1).len
      refine sr ?_
      refine la (Says.own (.tail (.tail .head))) Tryz.isAgg39 Tryz.sizeOf39 rfl (Nat.zero_add _).symm rfl rfl ?_
      refine cl rfl rfl rfl (m_at (i := 1) hT) rfl (fun v H1 L1 hle hR => ?_)
      obtain ⟨rfl, rfl, c18, rfl, g18⟩ := hR
      refine fc C39_3 rfl rfl rfl ?_
      refine ls Tryz.runUnderlying36 rfl rfl ?_
      refine mks (m := 0) (c := (T.at 1).l.length) (zs := [.string ⟨#[]⟩, .int .u8 0, .int .u8 0, .int .u8 0, .int .u8 0, .int .u8 0, .int .u8 0, .int .u8 0, .int .u8 0, .int .u8 0, .int .u8 0, .int .u8 0, .int .u8 0, .int .u8 0, .int .u8 0, .int .u8 0, .int .u8 0, .slice none 0 0, .map none]) Tryz.underlying100 I122 rfl rfl rfl rfl rfl (by omega) (by omega) (by unfold maxLen; omega) rfl (fun bm21 N21 r21 => ?_)
      refine fa0 F102_1 rfl rfl ?_
      refine st Tryz.sizeOf100 rfl rfl rfl rfl (.tail .head) ?_
      refine nl ?_
      refine sr ?_
      refine la (Says.own (.tail (.tail (.tail .head)))) Tryz.isAgg39 Tryz.sizeOf39 rfl (Nat.zero_add _).symm rfl rfl ?_
      refine cl rfl rfl rfl (m_at (i := 1) hT) rfl (fun v H1 L1 hle hR => ?_)
      obtain ⟨rfl, rfl, c24, rfl, g24⟩ := hR
      refine fc C39_3 rfl rfl rfl ?_
      refine ls Tryz.runUnderlying36 rfl rfl ?_
      refine mv rfl rfl ?_
      refine nl ?_
      refine fr ((T.at 1).l.length) (fun k l' H' L' => ∃ (a : Option Addr), ∃ (m : Nat), ∃ (c_ : Nat), ∃ (es : List (KE 19)), ∃ (N : Chunk), [(1, .pointer (some ⟨b_1, 0, none⟩)), (2, .pointer (some ⟨b_2, 0, none⟩)), (3, .pointer (some ⟨b_3, 0, none⟩)), (25, .slice c24.la (T.at 1).l.length c24.lc), (26, .int .i64 ((T.at 1).l.length : Int))] = l' ∧ N :: [(b_3, .cells [.string ⟨(T.at 0).s.toArray⟩, .slice a m c_, .int .i16 0, .map none].toArray 102 (0, 0))] :: [(b_2, .cells [.string ⟨#[]⟩, .slice none 0 0, .int .i16 0, .map none].toArray 102 (0, 0))] :: [(b_1, .cells (c.cells T).toArray 39 (0, 0))] :: L = L' ∧ Row 122 19 a m c_ (es.flatMap fk) N ∧ m = es.length ∧ (∀ p : KE 19, p ∈ es → At_OffsetFetchResponseGroupTopic H' p.2 (fk p)) ∧ es.map (·.2) = ((T.at 1).l.take k).map id ∧ a.isNone = false) [(1, .pointer (some ⟨b_1, 0, none⟩)), (2, .pointer (some ⟨b_2, 0, none⟩)), (3, .pointer (some ⟨b_3, 0, none⟩)), (25, .slice c24.la (T.at 1).l.length c24.lc), (26, .int .i64 ((T.at 1).l.length : Int))] (fun k l' H' L' h => ?_) (by omega) rfl (.cons rfl (.cons rfl (.cons rfl (.cons rfl (.cons rfl (.nil _)))))) ⟨some ⟨bm21, 0, none⟩, 0, _, [], N21, rfl, rfl, r21, rfl, (fun p hp => by cases hp), (by simp), rfl⟩ rfl rfl rfl rfl rfl (fun k l' H' L' hk le_9 hI => ?_) (fun l' H' L' le_10 hI => ?_)
      · obtain ⟨a, m, c_, es, N, rfl, _⟩ := h; exact ⟨rfl, rfl, rfl, rfl⟩
      · skip
        obtain ⟨a, m, c_, es, N, rfl, rfl, pk0, pk1, pk2, pk3, pk4⟩ := hI
        refine sr ?_
        obtain ⟨b_11, o_12, e_13, g_14⟩ := (g24.l.mono le_9).at_ (ne_nil_of_lt hk)
        obtain ⟨c_15, q_16, q_17⟩ := g_14 k hk
        refine ix2 Tryz.runUnderlying36 Tryz.sizeOf39 rfl e_13 rfl rfl hk rfl ?_
        refine la (Says.fz q_16) Tryz.isAgg39 Tryz.sizeOf39 rfl (Nat.add_zero _).symm rfl rfl ?_
        refine al Tryz.zeroValue39 rfl rfl (fun b_18 => ?_)
        refine sa Tryz.sizeOf39 rfl rfl rfl rfl rfl .head ?_
        refine nl ?_
        refine rgD 7 (.keep (.skip (.keep (.keep (.keep .nil))))) mixed ?_
        refine dT 0 rfl rfl rfl (by kernel_rfl) (fun _ _ _ h => h) (y_fa0 F102_1 rfl) (.keep (.skip (.keep (.keep (.keep .nil))))) (Fz.le.refl _) ?_
        refine dT 1 rfl rfl rfl (by kernel_rfl) (fun _ _ _ h => h) (y_ld (Says.own (.tail .head)) Tryz.isAgg100 rfl (Nat.zero_add _).symm rfl) (.keep (.skip (.keep (.keep (.keep .nil))))) (Fz.le.refl _) ?_
        refine dT 2 rfl rfl rfl (by kernel_rfl) (fun _ _ _ h => h) (y_la (Says.own .head) Tryz.isAgg39 Tryz.sizeOf39 rfl (Nat.zero_add _).symm rfl) (.keep (.skip (.keep (.keep (.keep .nil))))) (Fz.le.refl _) ?_
        refine dE 3 (by kernel_rfl) rfl ?_
        refine cl rfl rfl rfl (make_OffsetFetchResponseGroupTopic q_17 ((hf.at 1).el (List.getElem_mem hk))) rfl (fun v H1 L1 le_19 hR => ?_)
        obtain ⟨rfl, cs34, rfl, g34⟩ := hR
        have ho34 := At_OffsetFetchResponseGroupTopic.ok g34
        have gg34 := g34
        obtain ⟨a2e, c2e, mte, rfl, he0, he1⟩ := g34
        refine dN (.keep (.skip (.keep (.keep (.keep .nil))))) le_19 ?_
        refine dE 4 (by kernel_rfl) rfl ?_
        refine bs' L100 rfl rfl rfl rfl (fun b_20 => ?_)
        refine dN (.skip (.keep (.skip (.keep (.keep (.keep .nil)))))) le_19 ?_
        refine dE 5 (by kernel_rfl) rfl ?_
        have hmk : m = k := by have h1 := congrArg List.length pk3; rw [List.length_map, List.length_map, List.length_take] at h1; omega
        refine ap (news := fk ((⟨_, ho34⟩, (T.at 1).l[k]) : KE 19)) Tryz.underlying100 I122 rfl rfl pk0 (fun _ => (.tail (.tail .head))) (src_says Tryz.underlying100 rfl (fun _ => Says.own .head) (fk_one _)) (by omega) (by unfold maxLen; omega) rfl (fun a36 c36 N36 r36 z36 => ?_)
        rw [flatMap_snoc'] at r36
        have hin : a36.isNone = false := by cases a36 with | none => have := z36.1 rfl; omega | some _ => rfl
        refine dN (.skip (.keep (.skip (.keep (.keep (.keep .nil)))))) le_19 ?_
        refine dT 6 rfl rfl rfl (by kernel_rfl) (fun _ _ _ h => h) (y_fa0 F102_1 rfl) (.skip (.keep (.skip (.keep (.keep (.keep .nil)))))) le_19 ?_
        refine dE 7 (by kernel_rfl) rfl ?_
        refine st Tryz.sizeOf100 rfl rfl rfl rfl (.tail (.tail (.tail .head))) ?_
        refine dNk (by kernel_rfl) ?_
        refine dD (by kernel_rfl) ?_
        refine Nb ?_
        refine drN .head ?_
        refine drN .head ?_
        refine fun a_ w_ hA hw => ⟨_, _, _, hA.sub ?_, (le_9.trans le_19), hw, _, rfl, a36, _, c36, (es ++ [((⟨_, ho34⟩, (T.at 1).l[k]) : KE 19)]), N36, rfl, rfl, r36, (by simp; omega), (fun p hp => (mem_snoc hp).elim (fun h => At_OffsetFetchResponseGroupTopic.mono _ _ _ _ le_19 (pk2 p h)) (fun h => h ▸ At_OffsetFetchResponseGroupTopic.mono _ _ _ _ (Fz.le.refl _) gg34)), (map_take_snoc hk pk3), hin⟩
        exact (.cons rfl (.cons rfl (.cons rfl (.cons rfl (.cons rfl (.cons rfl (.nil _)))))))
      · skip
        obtain ⟨a, m, c_, es, N, rfl, rfl, pk0, pk1, pk2, pk3, pk4⟩ := hI
        refine toNn ?_
        have hm : m = (T.at 1).l.length := by have h1 := congrArg List.length pk3; rw [List.length_map, List.length_map, List.take_length] at h1; omega
        have hfe : es.map (·.2) = (T.at 1).l := by rw [pk3, List.take_length, List.map_id]
        refine frN pk0 .head (fun H2 hle2 hfz => ?_)
        have hrw := RowsAt.row (R := At_OffsetFetchResponseGroupTopic) hfz pk1 pk0.le.1 (fun p hp => At_OffsetFetchResponseGroupTopic.mono _ _ _ _ hle2 (pk2 p hp))
        rw [hfe, ← hlt] at hrw
        have hnl : m = (lT (T.at 1)).length := by rw [hlt]; exact hm
        have hla : ListAt H2 (T.at 1) 19 At_OffsetFetchResponseGroupTopic a c_ := ⟨hrw, by rw [pk4, hnu]⟩
        refine fun a_ w_ hA hw => ⟨_, _, _, hA.sub ?_, (le_10.trans hle2), hw, a, m, c_, rfl, rfl, hnl, hla⟩
        exact (.cons rfl (.cons rfl (.cons rfl (.nil _))))
    · skip
      have hnu : (T.at 1).nul = true := by simpa using h16
      refine skN ?_
      refine fun a_ w_ hA hw => ⟨_, _, _, hA.sub ?_, (Fz.le.refl _), hw, none, 0, 0, rfl, rfl, (by rw [lT_nul hnu]; rfl), (ListAt.none hnu)⟩
      exact (.cons rfl (.cons rfl (.cons rfl (.nil _))))
  · skip
    obtain ⟨a1, n1, c1, rfl, rfl, pj0, pj1⟩ := hI
    subst pj0
    have hf1 := pj1
    refine sr ?_
    refine la (Says.own (.tail (.tail .head))) Tryz.isAgg39 Tryz.sizeOf39 rfl (Nat.zero_add _).symm rfl rfl ?_
    refine cl rfl rfl rfl (m_at (i := 2) (hT.mono le_6)) rfl (fun v H1 L1 hle hR => ?_)
    obtain ⟨rfl, rfl, c40, rfl, g40⟩ := hR
    refine fc C39_0 rfl rfl rfl ?_
    refine cv Tryz.runUnderlying2 Tryz.runUnderlying45 rfl rfl rfl ?_
    refine fa0 F102_2 rfl rfl ?_
    refine st Tryz.sizeOf45 rfl rfl rfl rfl .head ?_
    refine nl ?_
    refine sq ?_
    refine sr ?_
    refine fa0 F39_4 rfl rfl ?_
    refine ld (Says.own (.tail (.tail .head))) Tryz.isAgg37 rfl (Nat.zero_add _).symm rfl rfl ?_
    refine ls Tryz.runUnderlying37 rfl rfl ?_
    refine mv rfl rfl ?_
    refine nl ?_
    refine nulC2 ?_
    have hun := hf.un
    refine fr (T.u.length) (fun q l' H' L' => ∃ (m : Option Nat), ∃ (kvs : List KV), ∃ (M : Chunk), [(2, .pointer (some ⟨b_2, 0, none⟩)), (3, .pointer (some ⟨b_3, 0, none⟩)), (45, .slice c.ua T.u.length c.uc), (46, .int .i64 (T.u.length : Int))] = l' ∧ M :: [(b_3, .cells [.string ⟨(T.at 0).s.toArray⟩, .slice a1 (lT (T.at 1)).length c1, .int .i16 (IntKind.i16.wrap (T.at 2).n), .map m].toArray 102 (0, 0))] :: [(b_2, .cells [.string ⟨#[]⟩, .slice none 0 0, .int .i16 0, .map none].toArray 102 (0, 0))] :: [(b_1, .cells (c.cells T).toArray 39 (0, 0))] :: L = L' ∧ MapC m kvs M ∧ KvTo H' (T.u.take q) kvs) [(2, .pointer (some ⟨b_2, 0, none⟩)), (3, .pointer (some ⟨b_3, 0, none⟩)), (45, .slice c.ua T.u.length c.uc), (46, .int .i64 (T.u.length : Int))] (fun q l' H' L' h => ?_) (by omega) rfl (.cons rfl (.cons rfl (.cons rfl (.cons rfl (.nil _))))) ⟨none, [], [], rfl, rfl, MapC.nil, (KvTo.nil _)⟩ rfl rfl rfl rfl rfl (fun q l' H' L' hq le_22 hI => ?_) (fun l' H' L' le_23 hI => ?_)
    · obtain ⟨m, kvs, M, rfl, _⟩ := h; exact ⟨rfl, rfl, rfl, rfl⟩
    · skip
      obtain ⟨m, kvs, M, rfl, rfl, pq0, pq1⟩ := hI
      refine sr ?_
      obtain ⟨b_24, o_25, e_26, g_27⟩ := (hT.u.mono (le_6.trans le_22)).at_ (ne_nil_of_lt hq)
      obtain ⟨c_28, q_29, q_30⟩ := g_27 q hq
      refine ix2 Tryz.runUnderlying37 Tryz.sizeOf65 rfl e_26 rfl rfl hq rfl ?_
      refine la (Says.fz q_29) Tryz.isAgg65 Tryz.sizeOf65 rfl (Nat.add_zero _).symm rfl rfl ?_
      refine al Tryz.zeroValue65 rfl rfl (fun b_31 => ?_)
      refine sa Tryz.sizeOf65 rfl rfl rfl rfl rfl .head ?_
      refine nl ?_
      refine rg ?_
      refine fa0 F102_3 rfl rfl ?_
      refine fa0 F65_0 rfl rfl ?_
      refine ld (Says.own .head) Tryz.isAgg62 rfl (Nat.zero_add _).symm rfl rfl ?_
      refine fa0 F65_1 rfl rfl ?_
      refine ld (Says.own .head) Tryz.isAgg22 rfl (Nat.zero_add _).symm rfl rfl ?_
      refine tf (.tail (.tail .head)) ?_
      refine tf (.tail (.tail .head)) ?_
      refine cl rfl rfl rfl (t_set (cs := [.string ⟨(T.at 0).s.toArray⟩, .slice a1 (lT (T.at 1)).length c1, .int .i16 (IntKind.i16.wrap (T.at 2).n), .map m]) (off := 3) pq0 rfl) rfl (fun v H1 L1 hle hR => ?_)
      obtain ⟨rfl, g56, cs56, hs56, rfl⟩ := hR
      obtain rfl : [.string ⟨(T.at 0).s.toArray⟩, .slice a1 (lT (T.at 1)).length c1, .int .i16 (IntKind.i16.wrap (T.at 2).n), .map (some g56)] = cs56 := Option.some.inj hs56
      refine nN ?_
      refine Nb ?_
      refine drN (.tail (.tail .head)) ?_
      refine fun a_ w_ hA hw => ⟨_, _, _, hA.sub ?_, le_22, hw, _, rfl, _, _, [(g56, _)], rfl, rfl, (.inr ⟨g56, rfl, rfl⟩), (KvTo.put hf.u (List.getElem?_eq_getElem hq) pq1 (⟨⟨_, _, rfl, q_30.val⟩, q_30.lo, q_30.hi⟩))⟩
      exact (.cons rfl (.cons rfl (.cons rfl (.cons rfl (.cons rfl (.nil _))))))
    · skip
      obtain ⟨m, kvs, M, rfl, rfl, pq0, pq1⟩ := hI
      refine toWp ?_
      rw [List.take_length] at pq1
      refine frMW pq0 .head (fun H3 hle3 hmf => ?_)
      have hft := KvTo.at_ hf.u (pq1.mono hle3) hmf
      refine sr ?_
      refine la (Says.own .head) Tryz.isAgg102 Tryz.sizeOf102 rfl (Nat.zero_add _).symm rfl rfl ?_
      refine sa Tryz.sizeOf102 rfl rfl rfl rfl rfl (.tail .head) ?_
      refine nl ?_
      refine drW .head ?_
      refine drW (.tail .head) ?_
      exact rC rfl Tryz.isAgg102 Tryz.sizeOf102 rfl .head rfl (le_6.trans (le_23.trans hle3)) (fun _ _ h => h) ⟨rfl, _, rfl, ⟨a1, c1, m, rfl, (hf1.mono At_OffsetFetchResponseGroupTopic.mono (le_23.trans hle3)), hft⟩⟩
theorem fill_OffsetFetchResponse {H : Fz} {L : Own} {b : Nat} {ver : Int} {c : TC} {T : Tr} (hT : TreeAt H c T) (hf : Fine T) :
    Fn Tryz.prog 31 [.pointer (some ⟨b, 0, none⟩), .agg (c.cells T).toArray] H ([(b, .cells [.int .i16 ver, .int .i32 0, .slice none 0 0, .int .i16 0, .slice none 0 0, .map none].toArray 58 (0, 0))] :: L) (fun _ H' L' => ∃ cs : List Value, L' = [(b, .cells cs.toArray 58 (0, 0))] :: L ∧ At_OffsetFetchResponse ver H' T cs) := by
  refine Fn.mk Tryz.call31 Tryz.func31 rfl Tryz.ntmps31 rfl ?_
  refine sr ?_
  refine bx rfl rfl rfl (fun b_1 => ?_)
  refine nl ?_
  refine sr ?_
  refine mv rfl rfl ?_
  refine la (Says.own .head) Tryz.isAgg39 Tryz.sizeOf39 rfl (Nat.zero_add _).symm rfl rfl ?_
  refine cl rfl rfl rfl (m_at (i := 0) hT) rfl (fun v H1 L1 hle hR => ?_)
  obtain ⟨rfl, rfl, c12, rfl, g12⟩ := hR
  refine fc C39_0 rfl rfl rfl ?_
  refine cv Tryz.runUnderlying2 Tryz.runUnderlying21 rfl rfl rfl ?_
  refine nc rfl rfl ?_
  refine fa0 F58_1 rfl rfl ?_
  refine st Tryz.sizeOf21 rfl rfl rfl rfl (.tail .head) ?_
  refine nl ?_
  refine sq ?_
  refine sr ?_
  refine la (Says.own .head) Tryz.isAgg39 Tryz.sizeOf39 rfl (Nat.zero_add _).symm rfl rfl ?_
  refine cl rfl rfl rfl (m_at (i := 1) hT) rfl (fun v H1 L1 hle hR => ?_)
  obtain ⟨rfl, rfl, c18, rfl, g18⟩ := hR
  refine fc C39_2 rfl rfl rfl ?_
  refine nt rfl rfl ?_
  refine nl ?_
  refine cutT (fun l' H' L' => ∃ (a1 : Option Addr), ∃ (n1 : Nat), ∃ (c1 : Nat), [(0, .pointer (some ⟨b, 0, none⟩)), (3, .pointer (some ⟨b_1, 0, none⟩))] = l' ∧ [(b_1, .cells (c.cells T).toArray 39 (0, 0))] :: [(b, .cells [.int .i16 ver, .int .i32 (IntKind.i32.wrap (T.at 0).n), .slice a1 n1 c1, .int .i16 0, .slice none 0 0, .map none].toArray 58 (0, 0))] :: L = L' ∧ n1 = (lT (T.at 1)).length ∧ ListAt H' (T.at 1) 3 At_OffsetFetchResponseTopic a1 c1) ?_ (fun l' H' L' le_4 hI => ?_)
  · skip
    refine cb rfl (fun h20 => ?_) (fun h20 => ?_)
    · skip
      have hnu : (T.at 1).nul = false := by simpa using h20
      have hlt : lT (T.at 1) = (T.at 1).l := lT_not hnu
      have hfl := (hf.at 1).len
      refine sr ?_
      refine mv rfl rfl ?_
      refine la (Says.own .head) Tryz.isAgg39 Tryz.sizeOf39 rfl (Nat.zero_add _).symm rfl rfl ?_
      refine cl rfl rfl rfl (m_at (i := 1) hT) rfl (fun v H1 L1 hle hR => ?_)
      obtain ⟨rfl, rfl, c23, rfl, g23⟩ := hR
      refine fc C39_3 rfl rfl rfl ?_
      refine ls Tryz.runUnderlying36 rfl rfl ?_
      refine mks (m := 0) (c := (T.at 1).l.length) (zs := [.string ⟨#[]⟩, .slice none 0 0, .map none]) Tryz.underlying52 I98 rfl rfl rfl rfl rfl (by omega) (by omega) (by unfold maxLen; omega) rfl (fun bm26 N26 r26 => ?_)
      refine nc rfl rfl ?_
      refine fa0 F58_2 rfl rfl ?_
      refine st Tryz.sizeOf52 rfl rfl rfl rfl (.tail (.tail .head)) ?_
      refine nl ?_
      refine sr ?_
      refine la (Says.own (.tail .head)) Tryz.isAgg39 Tryz.sizeOf39 rfl (Nat.zero_add _).symm rfl rfl ?_
      refine cl rfl rfl rfl (m_at (i := 1) hT) rfl (fun v H1 L1 hle hR => ?_)
      obtain ⟨rfl, rfl, c30, rfl, g30⟩ := hR
      refine fc C39_3 rfl rfl rfl ?_
      refine ls Tryz.runUnderlying36 rfl rfl ?_
      refine mv rfl rfl ?_
      refine nl ?_
      refine fr ((T.at 1).l.length) (fun k l' H' L' => ∃ (a : Option Addr), ∃ (m : Nat), ∃ (c_ : Nat), ∃ (es : List (KE 3)), ∃ (N : Chunk), [(0, .pointer (some ⟨b, 0, none⟩)), (3, .pointer (some ⟨b_1, 0, none⟩)), (31, .slice c30.la (T.at 1).l.length c30.lc), (32, .int .i64 ((T.at 1).l.length : Int))] = l' ∧ N :: [(b_1, .cells (c.cells T).toArray 39 (0, 0))] :: [(b, .cells [.int .i16 ver, .int .i32 (IntKind.i32.wrap (T.at 0).n), .slice a m c_, .int .i16 0, .slice none 0 0, .map none].toArray 58 (0, 0))] :: L = L' ∧ Row 98 3 a m c_ (es.flatMap fk) N ∧ m = es.length ∧ (∀ p : KE 3, p ∈ es → At_OffsetFetchResponseTopic H' p.2 (fk p)) ∧ es.map (·.2) = ((T.at 1).l.take k).map id ∧ a.isNone = false) [(0, .pointer (some ⟨b, 0, none⟩)), (3, .pointer (some ⟨b_1, 0, none⟩)), (31, .slice c30.la (T.at 1).l.length c30.lc), (32, .int .i64 ((T.at 1).l.length : Int))] (fun k l' H' L' h => ?_) (by omega) rfl (.cons rfl (.cons rfl (.cons rfl (.cons rfl (.nil _))))) ⟨some ⟨bm26, 0, none⟩, 0, _, [], N26, rfl, rfl, r26, rfl, (fun p hp => by cases hp), (by simp), rfl⟩ rfl rfl rfl rfl rfl (fun k l' H' L' hk le_7 hI => ?_) (fun l' H' L' le_8 hI => ?_)
      · obtain ⟨a, m, c_, es, N, rfl, _⟩ := h; exact ⟨rfl, rfl, rfl, rfl⟩
      · skip
        obtain ⟨a, m, c_, es, N, rfl, rfl, pk0, pk1, pk2, pk3, pk4⟩ := hI
        refine sr ?_
        obtain ⟨b_9, o_10, e_11, g_12⟩ := (g30.l.mono le_7).at_ (ne_nil_of_lt hk)
        obtain ⟨c_13, q_14, q_15⟩ := g_12 k hk
        refine ix2 Tryz.runUnderlying36 Tryz.sizeOf39 rfl e_11 rfl rfl hk rfl ?_
        refine la (Says.fz q_14) Tryz.isAgg39 Tryz.sizeOf39 rfl (Nat.add_zero _).symm rfl rfl ?_
        refine al Tryz.zeroValue39 rfl rfl (fun b_16 => ?_)
        refine sa Tryz.sizeOf39 rfl rfl rfl rfl rfl .head ?_
        refine nl ?_
        refine rgD 11 (.keep (.skip (.keep (.keep .nil)))) mixed ?_
        refine dT 0 rfl rfl rfl (by kernel_rfl) (fun _ _ _ h => h) (y_mv rfl) (.keep (.skip (.keep (.keep .nil)))) (Fz.le.refl _) ?_
        refine dT 1 rfl rfl rfl (by kernel_rfl) (fun _ _ _ h => h) (y_mv rfl) (.keep (.skip (.keep (.keep .nil)))) (Fz.le.refl _) ?_
        refine dT 2 rfl rfl rfl (by kernel_rfl) (fun _ _ _ h => h) (y_nc rfl) (.keep (.skip (.keep (.keep .nil)))) (Fz.le.refl _) ?_
        refine dT 3 rfl rfl rfl (by kernel_rfl) (fun _ _ _ h => h) (y_fa0 F58_2 rfl) (.keep (.skip (.keep (.keep .nil)))) (Fz.le.refl _) ?_
        refine dT 4 rfl rfl rfl (by kernel_rfl) (fun _ _ _ h => h) (y_ld (Says.own (.tail (.tail .head))) Tryz.isAgg52 rfl (Nat.zero_add _).symm rfl) (.keep (.skip (.keep (.keep .nil)))) (Fz.le.refl _) ?_
        refine dT 5 rfl rfl rfl (by kernel_rfl) (fun _ _ _ h => h) (y_la (Says.own .head) Tryz.isAgg39 Tryz.sizeOf39 rfl (Nat.zero_add _).symm rfl) (.keep (.skip (.keep (.keep .nil)))) (Fz.le.refl _) ?_
        refine dE 6 (by kernel_rfl) rfl ?_
        refine cl rfl rfl rfl (make_OffsetFetchResponseTopic q_15 ((hf.at 1).el (List.getElem_mem hk))) rfl (fun v H1 L1 le_17 hR => ?_)
        obtain ⟨rfl, cs43, rfl, g43⟩ := hR
        have ho43 := At_OffsetFetchResponseTopic.ok g43
        have gg43 := g43
        obtain ⟨a1e, c1e, mte, rfl, he0, he1⟩ := g43
        refine dN (.keep (.skip (.keep (.keep .nil)))) le_17 ?_
        refine dE 7 (by kernel_rfl) rfl ?_
        refine bs' L52 rfl rfl rfl rfl (fun b_18 => ?_)
        refine dN (.skip (.keep (.skip (.keep (.keep .nil))))) le_17 ?_
        refine dE 8 (by kernel_rfl) rfl ?_
        have hmk : m = k := by have h1 := congrArg List.length pk3; rw [List.length_map, List.length_map, List.length_take] at h1; omega
        refine ap (news := fk ((⟨_, ho43⟩, (T.at 1).l[k]) : KE 3)) Tryz.underlying52 I98 rfl rfl pk0 (fun _ => (.tail (.tail .head))) (src_says Tryz.underlying52 rfl (fun _ => Says.own .head) (fk_one _)) (by omega) (by unfold maxLen; omega) rfl (fun a45 c45 N45 r45 z45 => ?_)
        rw [flatMap_snoc'] at r45
        have hin : a45.isNone = false := by cases a45 with | none => have := z45.1 rfl; omega | some _ => rfl
        refine dN (.skip (.keep (.skip (.keep (.keep .nil))))) le_17 ?_
        refine dE 9 (by kernel_rfl) rfl ?_
        refine nc rfl rfl ?_
        refine dN (.skip (.keep (.skip (.keep (.keep .nil))))) le_17 ?_
        refine dT 10 rfl rfl rfl (by kernel_rfl) (fun _ _ _ h => h) (y_fa0 F58_2 rfl) (.skip (.keep (.skip (.keep (.keep .nil))))) le_17 ?_
        refine dE 11 (by kernel_rfl) rfl ?_
        refine st Tryz.sizeOf52 rfl rfl rfl rfl (.tail (.tail (.tail (.tail .head)))) ?_
        refine dNk (by kernel_rfl) ?_
        refine dD (by kernel_rfl) ?_
        refine Nb ?_
        refine drN .head ?_
        refine drN .head ?_
        refine fun a_ w_ hA hw => ⟨_, _, _, hA.sub ?_, (le_7.trans le_17), hw, _, rfl, a45, _, c45, (es ++ [((⟨_, ho43⟩, (T.at 1).l[k]) : KE 3)]), N45, rfl, rfl, r45, (by simp; omega), (fun p hp => (mem_snoc hp).elim (fun h => At_OffsetFetchResponseTopic.mono _ _ _ _ le_17 (pk2 p h)) (fun h => h ▸ At_OffsetFetchResponseTopic.mono _ _ _ _ (Fz.le.refl _) gg43)), (map_take_snoc hk pk3), hin⟩
        exact (.cons rfl (.cons rfl (.cons rfl (.cons rfl (.cons rfl (.nil _))))))
      · skip
        obtain ⟨a, m, c_, es, N, rfl, rfl, pk0, pk1, pk2, pk3, pk4⟩ := hI
        refine toNn ?_
        have hm : m = (T.at 1).l.length := by have h1 := congrArg List.length pk3; rw [List.length_map, List.length_map, List.take_length] at h1; omega
        have hfe : es.map (·.2) = (T.at 1).l := by rw [pk3, List.take_length, List.map_id]
        refine frN pk0 .head (fun H2 hle2 hfz => ?_)
        have hrw := RowsAt.row (R := At_OffsetFetchResponseTopic) hfz pk1 pk0.le.1 (fun p hp => At_OffsetFetchResponseTopic.mono _ _ _ _ hle2 (pk2 p hp))
        rw [hfe, ← hlt] at hrw
        have hnl : m = (lT (T.at 1)).length := by rw [hlt]; exact hm
        have hla : ListAt H2 (T.at 1) 3 At_OffsetFetchResponseTopic a c_ := ⟨hrw, by rw [pk4, hnu]⟩
        refine fun a_ w_ hA hw => ⟨_, _, _, hA.sub ?_, (le_8.trans hle2), hw, a, m, c_, rfl, rfl, hnl, hla⟩
        exact (.cons rfl (.cons rfl (.nil _)))
    · skip
      have hnu : (T.at 1).nul = true := by simpa using h20
      refine skN ?_
      refine fun a_ w_ hA hw => ⟨_, _, _, hA.sub ?_, (Fz.le.refl _), hw, none, 0, 0, rfl, rfl, (by rw [lT_nul hnu]; rfl), (ListAt.none hnu)⟩
      exact (.cons rfl (.cons rfl (.nil _)))
  · skip
    obtain ⟨a1, n1, c1, rfl, rfl, pj0, pj1⟩ := hI
    subst pj0
    have hf1 := pj1
    refine sr ?_
    refine mv rfl rfl ?_
    refine la (Says.own .head) Tryz.isAgg39 Tryz.sizeOf39 rfl (Nat.zero_add _).symm rfl rfl ?_
    refine cl rfl rfl rfl (m_at (i := 2) (hT.mono le_4)) rfl (fun v H1 L1 hle hR => ?_)
    obtain ⟨rfl, rfl, c51, rfl, g51⟩ := hR
    refine fc C39_0 rfl rfl rfl ?_
    refine cv Tryz.runUnderlying2 Tryz.runUnderlying45 rfl rfl rfl ?_
    refine nc rfl rfl ?_
    refine fa0 F58_3 rfl rfl ?_
    refine st Tryz.sizeOf45 rfl rfl rfl rfl (.tail .head) ?_
    refine nl ?_
    refine sq ?_
    refine sr ?_
    refine la (Says.own .head) Tryz.isAgg39 Tryz.sizeOf39 rfl (Nat.zero_add _).symm rfl rfl ?_
    refine cl rfl rfl rfl (m_at (i := 3) (hT.mono le_4)) rfl (fun v H1 L1 hle hR => ?_)
    obtain ⟨rfl, rfl, c57, rfl, g57⟩ := hR
    refine fc C39_2 rfl rfl rfl ?_
    refine nt rfl rfl ?_
    refine nl ?_
    refine cutT (fun l' H' L' => ∃ (a3 : Option Addr), ∃ (n3 : Nat), ∃ (c3 : Nat), [(0, .pointer (some ⟨b, 0, none⟩)), (3, .pointer (some ⟨b_1, 0, none⟩))] = l' ∧ [(b_1, .cells (c.cells T).toArray 39 (0, 0))] :: [(b, .cells [.int .i16 ver, .int .i32 (IntKind.i32.wrap (T.at 0).n), .slice a1 (lT (T.at 1)).length c1, .int .i16 (IntKind.i16.wrap (T.at 2).n), .slice a3 n3 c3, .map none].toArray 58 (0, 0))] :: L = L' ∧ n3 = (lT (T.at 3)).length ∧ ListAt H' (T.at 3) 4 At_OffsetFetchResponseGroup a3 c3) ?_ (fun l' H' L' le_21 hI => ?_)
    · skip
      refine cb rfl (fun h59 => ?_) (fun h59 => ?_)
      · skip
        have hnu : (T.at 3).nul = false := by simpa using h59
        have hlt : lT (T.at 3) = (T.at 3).l := lT_not hnu
        have hfl := (hf.at 3).len
        refine sr ?_
        refine mv rfl rfl ?_
        refine la (Says.own .head) Tryz.isAgg39 Tryz.sizeOf39 rfl (Nat.zero_add _).symm rfl rfl ?_
        refine cl rfl rfl rfl (m_at (i := 3) (hT.mono le_4)) rfl (fun v H1 L1 hle hR => ?_)
        obtain ⟨rfl, rfl, c62, rfl, g62⟩ := hR
        refine fc C39_3 rfl rfl rfl ?_
        refine ls Tryz.runUnderlying36 rfl rfl ?_
        refine mks (m := 0) (c := (T.at 3).l.length) (zs := [.string ⟨#[]⟩, .slice none 0 0, .int .i16 0, .map none]) Tryz.underlying53 I102 rfl rfl rfl rfl rfl (by omega) (by omega) (by unfold maxLen; omega) rfl (fun bm65 N65 r65 => ?_)
        refine nc rfl rfl ?_
        refine fa0 F58_4 rfl rfl ?_
        refine st Tryz.sizeOf53 rfl rfl rfl rfl (.tail (.tail .head)) ?_
        refine nl ?_
        refine sr ?_
        refine la (Says.own (.tail .head)) Tryz.isAgg39 Tryz.sizeOf39 rfl (Nat.zero_add _).symm rfl rfl ?_
        refine cl rfl rfl rfl (m_at (i := 3) (hT.mono le_4)) rfl (fun v H1 L1 hle hR => ?_)
        obtain ⟨rfl, rfl, c69, rfl, g69⟩ := hR
        refine fc C39_3 rfl rfl rfl ?_
        refine ls Tryz.runUnderlying36 rfl rfl ?_
        refine mv rfl rfl ?_
        refine nl ?_
        refine fr ((T.at 3).l.length) (fun k l' H' L' => ∃ (a : Option Addr), ∃ (m : Nat), ∃ (c_ : Nat), ∃ (es : List (KE 4)), ∃ (N : Chunk), [(0, .pointer (some ⟨b, 0, none⟩)), (3, .pointer (some ⟨b_1, 0, none⟩)), (70, .slice c69.la (T.at 3).l.length c69.lc), (71, .int .i64 ((T.at 3).l.length : Int))] = l' ∧ N :: [(b_1, .cells (c.cells T).toArray 39 (0, 0))] :: [(b, .cells [.int .i16 ver, .int .i32 (IntKind.i32.wrap (T.at 0).n), .slice a1 (lT (T.at 1)).length c1, .int .i16 (IntKind.i16.wrap (T.at 2).n), .slice a m c_, .map none].toArray 58 (0, 0))] :: L = L' ∧ Row 102 4 a m c_ (es.flatMap fk) N ∧ m = es.length ∧ (∀ p : KE 4, p ∈ es → At_OffsetFetchResponseGroup H' p.2 (fk p)) ∧ es.map (·.2) = ((T.at 3).l.take k).map id ∧ a.isNone = false) [(0, .pointer (some ⟨b, 0, none⟩)), (3, .pointer (some ⟨b_1, 0, none⟩)), (70, .slice c69.la (T.at 3).l.length c69.lc), (71, .int .i64 ((T.at 3).l.length : Int))] (fun k l' H' L' h => ?_) (by omega) rfl (.cons rfl (.cons rfl (.cons rfl (.cons rfl (.nil _))))) ⟨some ⟨bm65, 0, none⟩, 0, _, [], N65, rfl, rfl, r65, rfl, (fun p hp => by cases hp), (by simp), rfl⟩ rfl rfl rfl rfl rfl (fun k l' H' L' hk le_24 hI => ?_) (fun l' H' L' le_25 hI => ?_)
        · obtain ⟨a, m, c_, es, N, rfl, _⟩ := h; exact ⟨rfl, rfl, rfl, rfl⟩
        · skip
          obtain ⟨a, m, c_, es, N, rfl, rfl, pk0, pk1, pk2, pk3, pk4⟩ := hI
          refine sr ?_
          obtain ⟨b_26, o_27, e_28, g_29⟩ := (g69.l.mono le_24).at_ (ne_nil_of_lt hk)
          obtain ⟨c_30, q_31, q_32⟩ := g_29 k hk
          refine ix2 Tryz.runUnderlying36 Tryz.sizeOf39 rfl e_28 rfl rfl hk rfl ?_
          refine la (Says.fz q_31) Tryz.isAgg39 Tryz.sizeOf39 rfl (Nat.add_zero _).symm rfl rfl ?_
          refine al Tryz.zeroValue39 rfl rfl (fun b_33 => ?_)
          refine sa Tryz.sizeOf39 rfl rfl rfl rfl rfl .head ?_
          refine nl ?_
          refine rgD 11 (.keep (.skip (.keep (.keep .nil)))) mixed ?_
          refine dT 0 rfl rfl rfl (by kernel_rfl) (fun _ _ _ h => h) (y_mv rfl) (.keep (.skip (.keep (.keep .nil)))) (Fz.le.refl _) ?_
          refine dT 1 rfl rfl rfl (by kernel_rfl) (fun _ _ _ h => h) (y_mv rfl) (.keep (.skip (.keep (.keep .nil)))) (Fz.le.refl _) ?_
          refine dT 2 rfl rfl rfl (by kernel_rfl) (fun _ _ _ h => h) (y_nc rfl) (.keep (.skip (.keep (.keep .nil)))) (Fz.le.refl _) ?_
          refine dT 3 rfl rfl rfl (by kernel_rfl) (fun _ _ _ h => h) (y_fa0 F58_4 rfl) (.keep (.skip (.keep (.keep .nil)))) (Fz.le.refl _) ?_
          refine dT 4 rfl rfl rfl (by kernel_rfl) (fun _ _ _ h => h) (y_ld (Says.own (.tail (.tail .head))) Tryz.isAgg53 rfl (Nat.zero_add _).symm rfl) (.keep (.skip (.keep (.keep .nil)))) (Fz.le.refl _) ?_
          refine dT 5 rfl rfl rfl (by kernel_rfl) (fun _ _ _ h => h) (y_la (Says.own .head) Tryz.isAgg39 Tryz.sizeOf39 rfl (Nat.zero_add _).symm rfl) (.keep (.skip (.keep (.keep .nil)))) (Fz.le.refl _) ?_
          refine dE 6 (by kernel_rfl) rfl ?_
          refine cl rfl rfl rfl (make_OffsetFetchResponseGroup q_32 ((hf.at 3).el (List.getElem_mem hk))) rfl (fun v H1 L1 le_34 hR => ?_)
          obtain ⟨rfl, cs82, rfl, g82⟩ := hR
          have ho82 := At_OffsetFetchResponseGroup.ok g82
          have gg82 := g82
          obtain ⟨a1e, c1e, mte, rfl, he0, he1⟩ := g82
          refine dN (.keep (.skip (.keep (.keep .nil)))) le_34 ?_
          refine dE 7 (by kernel_rfl) rfl ?_
          refine bs' L53 rfl rfl rfl rfl (fun b_35 => ?_)
          refine dN (.skip (.keep (.skip (.keep (.keep .nil))))) le_34 ?_
          refine dE 8 (by kernel_rfl) rfl ?_
          have hmk : m = k := by have h1 := congrArg List.length pk3; rw [List.length_map, List.length_map, List.length_take] at h1; omega
          refine ap (news := fk ((⟨_, ho82⟩, (T.at 3).l[k]) : KE 4)) Tryz.underlying53 I102 rfl rfl pk0 (fun _ => (.tail (.tail .head))) (src_says Tryz.underlying53 rfl (fun _ => Says.own .head) (fk_one _)) (by omega) (by unfold maxLen; omega) rfl (fun a84 c84 N84 r84 z84 => ?_)
          rw [flatMap_snoc'] at r84
          have hin : a84.isNone = false := by cases a84 with | none => have := z84.1 rfl; omega | some _ => rfl
          refine dN (.skip (.keep (.skip (.keep (.keep .nil))))) le_34 ?_
          refine dE 9 (by kernel_rfl) rfl ?_
          refine nc rfl rfl ?_
          refine dN (.skip (.keep (.skip (.keep (.keep .nil))))) le_34 ?_
          refine dT 10 rfl rfl rfl (by kernel_rfl) (fun _ _ _ h => h) (y_fa0 F58_4 rfl) (.skip (.keep (.skip (.keep (.keep .nil))))) le_34 ?_
          refine dE 11 (by kernel_rfl) rfl ?_
          refine st Tryz.sizeOf53 rfl rfl rfl rfl (.tail (.tail (.tail (.tail .head)))) ?_
          refine dNk (by kernel_rfl) ?_
          refine dD (by kernel_rfl) ?_
          refine Nb ?_
          refine drN .head ?_
          refine drN .head ?_
          refine fun a_ w_ hA hw => ⟨_, _, _, hA.sub ?_, (le_24.trans le_34), hw, _, rfl, a84, _, c84, (es ++ [((⟨_, ho82⟩, (T.at 3).l[k]) : KE 4)]), N84, rfl, rfl, r84, (by simp; omega), (fun p hp => (mem_snoc hp).elim (fun h => At_OffsetFetchResponseGroup.mono _ _ _ _ le_34 (pk2 p h)) (fun h => h ▸ At_OffsetFetchResponseGroup.mono _ _ _ _ (Fz.le.refl _) gg82)), (map_take_snoc hk pk3), hin⟩
          exact (.cons rfl (.cons rfl (.cons rfl (.cons rfl (.cons rfl (.nil _))))))
        · skip
          obtain ⟨a, m, c_, es, N, rfl, rfl, pk0, pk1, pk2, pk3, pk4⟩ := hI
          refine toNn ?_
          have hm : m = (T.at 3).l.length := by have h1 := congrArg List.length pk3; rw [List.length_map, List.length_map, List.take_length] at h1; omega
          have hfe : es.map (·.2) = (T.at 3).l := by rw [pk3, List.take_length, List.map_id]
          refine frN pk0 .head (fun H2 hle2 hfz => ?_)
          have hrw := RowsAt.row (R := At_OffsetFetchResponseGroup) hfz pk1 pk0.le.1 (fun p hp => At_OffsetFetchResponseGroup.mono _ _ _ _ hle2 (pk2 p hp))
          rw [hfe, ← hlt] at hrw
          have hnl : m = (lT (T.at 3)).length := by rw [hlt]; exact hm
          have hla : ListAt H2 (T.at 3) 4 At_OffsetFetchResponseGroup a c_ := ⟨hrw, by rw [pk4, hnu]⟩
          refine fun a_ w_ hA hw => ⟨_, _, _, hA.sub ?_, (le_25.trans hle2), hw, a, m, c_, rfl, rfl, hnl, hla⟩
          exact (.cons rfl (.cons rfl (.nil _)))
      · skip
        have hnu : (T.at 3).nul = true := by simpa using h59
        refine skN ?_
        refine fun a_ w_ hA hw => ⟨_, _, _, hA.sub ?_, (Fz.le.refl _), hw, none, 0, 0, rfl, rfl, (by rw [lT_nul hnu]; rfl), (ListAt.none hnu)⟩
        exact (.cons rfl (.cons rfl (.nil _)))
    · skip
      obtain ⟨a3, n3, c3, rfl, rfl, pj0, pj1⟩ := hI
      subst pj0
      have hf3 := pj1
      refine sr ?_
      refine fa0 F39_4 rfl rfl ?_
      refine ld (Says.own .head) Tryz.isAgg37 rfl (Nat.zero_add _).symm rfl rfl ?_
      refine ls Tryz.runUnderlying37 rfl rfl ?_
      refine mv rfl rfl ?_
      refine nl ?_
      refine nulC2 ?_
      have hun := hf.un
      refine fr (T.u.length) (fun q l' H' L' => ∃ (m : Option Nat), ∃ (kvs : List KV), ∃ (M : Chunk), [(0, .pointer (some ⟨b, 0, none⟩)), (89, .slice c.ua T.u.length c.uc), (90, .int .i64 (T.u.length : Int))] = l' ∧ M :: [(b_1, .cells (c.cells T).toArray 39 (0, 0))] :: [(b, .cells [.int .i16 ver, .int .i32 (IntKind.i32.wrap (T.at 0).n), .slice a1 (lT (T.at 1)).length c1, .int .i16 (IntKind.i16.wrap (T.at 2).n), .slice a3 (lT (T.at 3)).length c3, .map m].toArray 58 (0, 0))] :: L = L' ∧ MapC m kvs M ∧ KvTo H' (T.u.take q) kvs) [(0, .pointer (some ⟨b, 0, none⟩)), (89, .slice c.ua T.u.length c.uc), (90, .int .i64 (T.u.length : Int))] (fun q l' H' L' h => ?_) (by omega) rfl (.cons rfl (.cons rfl (.cons rfl (.nil _)))) ⟨none, [], [], rfl, rfl, MapC.nil, (KvTo.nil _)⟩ rfl rfl rfl rfl rfl (fun q l' H' L' hq le_36 hI => ?_) (fun l' H' L' le_37 hI => ?_)
      · obtain ⟨m, kvs, M, rfl, _⟩ := h; exact ⟨rfl, rfl, rfl, rfl⟩
      · skip
        obtain ⟨m, kvs, M, rfl, rfl, pq0, pq1⟩ := hI
        refine sr ?_
        obtain ⟨b_38, o_39, e_40, g_41⟩ := (hT.u.mono (le_4.trans (le_21.trans le_36))).at_ (ne_nil_of_lt hq)
        obtain ⟨c_42, q_43, q_44⟩ := g_41 q hq
        refine ix2 Tryz.runUnderlying37 Tryz.sizeOf65 rfl e_40 rfl rfl hq rfl ?_
        refine la (Says.fz q_43) Tryz.isAgg65 Tryz.sizeOf65 rfl (Nat.add_zero _).symm rfl rfl ?_
        refine al Tryz.zeroValue65 rfl rfl (fun b_45 => ?_)
        refine sa Tryz.sizeOf65 rfl rfl rfl rfl rfl .head ?_
        refine nl ?_
        refine rgD 8 (.keep (.skip (.keep .nil))) mixed ?_
        refine dT 0 rfl rfl rfl (by kernel_rfl) (fun _ _ _ h => h) (y_mv rfl) (.keep (.skip (.keep .nil))) (Fz.le.refl _) ?_
        refine dT 1 rfl rfl rfl (by kernel_rfl) (fun _ _ _ h => h) (y_nc rfl) (.keep (.skip (.keep .nil))) (Fz.le.refl _) ?_
        refine dT 2 rfl rfl rfl (by kernel_rfl) (fun _ _ _ h => h) (y_fa0 F58_5 rfl) (.keep (.skip (.keep .nil))) (Fz.le.refl _) ?_
        refine dT 3 rfl rfl rfl (by kernel_rfl) (fun _ _ _ h => h) (y_fa0 F65_0 rfl) (.keep (.skip (.keep .nil))) (Fz.le.refl _) ?_
        refine dT 4 rfl rfl rfl (by kernel_rfl) (fun _ _ _ h => h) (y_ld (Says.own .head) Tryz.isAgg62 rfl (Nat.zero_add _).symm rfl) (.keep (.skip (.keep .nil))) (Fz.le.refl _) ?_
        refine dT 5 rfl rfl rfl (by kernel_rfl) (fun _ _ _ h => h) (y_fa0 F65_1 rfl) (.keep (.skip (.keep .nil))) (Fz.le.refl _) ?_
        refine dT 6 rfl rfl rfl (by kernel_rfl) (fun _ _ _ h => h) (y_ld (Says.own .head) Tryz.isAgg22 rfl (Nat.zero_add _).symm rfl) (.keep (.skip (.keep .nil))) (Fz.le.refl _) ?_
        refine dE 7 (by kernel_rfl) rfl ?_
        refine tf (.tail (.tail (.tail .head))) ?_
        refine tf (.tail (.tail .head)) ?_
        refine cl rfl rfl rfl (t_set (cs := [.int .i16 ver, .int .i32 (IntKind.i32.wrap (T.at 0).n), .slice a1 (lT (T.at 1)).length c1, .int .i16 (IntKind.i16.wrap (T.at 2).n), .slice a3 (lT (T.at 3)).length c3, .map m]) (off := 5) pq0 rfl) rfl (fun v H1 L1 hle hR => ?_)
        obtain ⟨rfl, g102, cs102, hs102, rfl⟩ := hR
        obtain rfl : [.int .i16 ver, .int .i32 (IntKind.i32.wrap (T.at 0).n), .slice a1 (lT (T.at 1)).length c1, .int .i16 (IntKind.i16.wrap (T.at 2).n), .slice a3 (lT (T.at 3)).length c3, .map (some g102)] = cs102 := Option.some.inj hs102
        refine dN (.skip (.skip (.keep (.keep .nil)))) (Fz.le.refl _) ?_
        refine dD (by kernel_rfl) ?_
        refine Nb ?_
        refine drN (.tail (.tail .head)) ?_
        refine tfN (.tail .head) ?_
        refine tfN (.tail (.tail .head)) ?_
        refine tfN (.tail (.tail .head)) ?_
        refine fun a_ w_ hA hw => ⟨_, _, _, hA.sub ?_, le_36, hw, _, rfl, _, _, [(g102, _)], rfl, rfl, (.inr ⟨g102, rfl, rfl⟩), (KvTo.put hf.u (List.getElem?_eq_getElem hq) pq1 (⟨⟨_, _, rfl, q_44.val⟩, q_44.lo, q_44.hi⟩))⟩
        exact (.cons rfl (.cons rfl (.cons rfl (.cons rfl (.nil _)))))
      · skip
        obtain ⟨m, kvs, M, rfl, rfl, pq0, pq1⟩ := hI
        refine toNn ?_
        rw [List.take_length] at pq1
        refine frMN pq0 .head (fun H3 hle3 hmf => ?_)
        have hft := KvTo.at_ hf.u (pq1.mono hle3) hmf
        refine drN .head ?_
        exact fun _ _ hA hw => rn rfl (le_4.trans (le_21.trans (le_37.trans hle3))) ⟨_, rfl, ⟨a1, c1, a3, c3, m, rfl, (hf1.mono At_OffsetFetchResponseTopic.mono (le_21.trans (le_37.trans hle3))), (hf3.mono At_OffsetFetchResponseGroup.mono (le_37.trans hle3)), hft⟩⟩ hA hw
end Go.Sx

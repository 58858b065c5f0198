import Derived.Test.YtahmkeoedpghjaaGreatBProduceRequest
import Derived.Test.YtahmkeoedpghjaaGreatD0
import Derived.KernelRfl
set_option linter.unusedVariables false
set_option linter.unusedSimpArgs false
set_option maxRecDepth 100000
set_option maxHeartbeats 20000000
namespace Go.Sx
open Go.Proofs
theorem make_ProduceRequestTopicPartition {H : Fz} {L : Own} {c : TC} {T : Tr} (hT : TreeAt H c T) (hf : Fine T) :
    Fn Tryz.prog 54 [.agg (c.cells T).toArray] H L (fun v H' L' => L = L' ∧ ∃ cs : List Value, v = .agg cs.toArray ∧ At_ProduceRequestTopicPartition H' T cs) := by
  refine Fn.mk Tryz.call54 Tryz.func54 rfl Tryz.ntmps54 rfl ?_
  refine sr ?_
  refine bx rfl rfl rfl (fun b_1 => ?_)
  refine al Tryz.zeroValue88 rfl rfl (fun b_2 => ?_)
  refine nl ?_
  refine sr ?_
  refine al Tryz.zeroValue88 rfl rfl (fun b_3 => ?_)
  refine nl ?_
  refine sr ?_
  refine la (Says.own (.tail (.tail .head))) Tryz.isAgg39 Tryz.sizeOf39 rfl (Nat.zero_add _).symm rfl rfl ?_
  refine cl rfl rfl rfl (m_at (i := 0) hT) rfl (fun v H1 L1 hle hR => ?_)
  obtain ⟨rfl, rfl, c7, rfl, g7⟩ := hR
  refine fc C39_0 rfl rfl rfl ?_
  refine cv Tryz.runUnderlying2 Tryz.runUnderlying21 rfl rfl rfl ?_
  refine fa0 F88_0 rfl rfl ?_
  refine st Tryz.sizeOf21 rfl rfl rfl rfl .head ?_
  refine nl ?_
  refine sr ?_
  refine la (Says.own (.tail (.tail .head))) Tryz.isAgg39 Tryz.sizeOf39 rfl (Nat.zero_add _).symm rfl rfl ?_
  refine cl rfl rfl rfl (m_at (i := 1) hT) rfl (fun v H1 L1 hle hR => ?_)
  obtain ⟨rfl, rfl, c12, rfl, g12⟩ := hR
  refine cl rfl rfl rfl (m_octetsOf g12) rfl (fun v H1 L1 le_6 hR => ?_)
  obtain ⟨rfl, a1, c1, rfl, hf1⟩ := hR
  refine fa0 F88_1 rfl rfl ?_
  refine st Tryz.sizeOf22 rfl rfl rfl rfl .head ?_
  refine nl ?_
  refine sq ?_
  refine sr ?_
  refine fa0 F39_4 rfl rfl ?_
  refine ld (Says.own (.tail (.tail .head))) Tryz.isAgg37 rfl (Nat.zero_add _).symm rfl rfl ?_
  refine ls Tryz.runUnderlying37 rfl rfl ?_
  refine mv rfl rfl ?_
  refine nl ?_
  refine nulC2 ?_
  have hun := hf.un
  refine fr (T.u.length) (fun q l' H' L' => ∃ (m : Option Nat), ∃ (kvs : List KV), ∃ (M : Chunk), [(2, .pointer (some ⟨b_2, 0, none⟩)), (3, .pointer (some ⟨b_3, 0, none⟩)), (16, .slice c.ua T.u.length c.uc), (17, .int .i64 (T.u.length : Int))] = l' ∧ M :: [(b_3, .cells [.int .i32 (IntKind.i32.wrap (T.at 0).n), .slice a1 (sT (T.at 1)).length c1, .map m].toArray 88 (0, 0))] :: [(b_2, .cells [.int .i32 0, .slice none 0 0, .map none].toArray 88 (0, 0))] :: [(b_1, .cells (c.cells T).toArray 39 (0, 0))] :: L = L' ∧ MapC m kvs M ∧ KvTo H' (T.u.take q) kvs) [(2, .pointer (some ⟨b_2, 0, none⟩)), (3, .pointer (some ⟨b_3, 0, none⟩)), (16, .slice c.ua T.u.length c.uc), (17, .int .i64 (T.u.length : Int))] (fun q l' H' L' h => ?_) (by omega) rfl (.cons rfl (.cons rfl (.cons rfl (.cons rfl (.nil _))))) ⟨none, [], [], rfl, rfl, MapC.nil, (KvTo.nil _)⟩ rfl rfl rfl rfl rfl (fun q l' H' L' hq le_7 hI => ?_) (fun l' H' L' le_8 hI => ?_)
  · obtain ⟨m, kvs, M, rfl, _⟩ := h; exact ⟨rfl, rfl, rfl, rfl⟩
  · skip
    obtain ⟨m, kvs, M, rfl, rfl, pq0, pq1⟩ := hI
    refine sr ?_
    obtain ⟨b_9, o_10, e_11, g_12⟩ := (hT.u.mono (le_6.trans le_7)).at_ (ne_nil_of_lt hq)
    obtain ⟨c_13, q_14, q_15⟩ := g_12 q hq
    refine ix2 Tryz.runUnderlying37 Tryz.sizeOf65 rfl e_11 rfl rfl hq rfl ?_
    refine la (Says.fz q_14) Tryz.isAgg65 Tryz.sizeOf65 rfl (Nat.add_zero _).symm rfl rfl ?_
    refine al Tryz.zeroValue65 rfl rfl (fun b_16 => ?_)
    refine sa Tryz.sizeOf65 rfl rfl rfl rfl rfl .head ?_
    refine nl ?_
    refine rg ?_
    refine fa0 F88_2 rfl rfl ?_
    refine fa0 F65_0 rfl rfl ?_
    refine ld (Says.own .head) Tryz.isAgg62 rfl (Nat.zero_add _).symm rfl rfl ?_
    refine fa0 F65_1 rfl rfl ?_
    refine ld (Says.own .head) Tryz.isAgg22 rfl (Nat.zero_add _).symm rfl rfl ?_
    refine tf (.tail (.tail .head)) ?_
    refine tf (.tail (.tail .head)) ?_
    refine cl rfl rfl rfl (t_set (cs := [.int .i32 (IntKind.i32.wrap (T.at 0).n), .slice a1 (sT (T.at 1)).length c1, .map m]) (off := 2) pq0 rfl) rfl (fun v H1 L1 hle hR => ?_)
    obtain ⟨rfl, g27, cs27, hs27, rfl⟩ := hR
    obtain rfl : [.int .i32 (IntKind.i32.wrap (T.at 0).n), .slice a1 (sT (T.at 1)).length c1, .map (some g27)] = cs27 := Option.some.inj hs27
    refine nN ?_
    refine Nb ?_
    refine drN (.tail (.tail .head)) ?_
    refine fun a_ w_ hA hw => ⟨_, _, _, hA.sub ?_, le_7, hw, _, rfl, _, _, [(g27, _)], rfl, rfl, (.inr ⟨g27, rfl, rfl⟩), (KvTo.put hf.u (List.getElem?_eq_getElem hq) pq1 (⟨⟨_, _, rfl, q_15.val⟩, q_15.lo, q_15.hi⟩))⟩
    exact (.cons rfl (.cons rfl (.cons rfl (.cons rfl (.cons rfl (.nil _))))))
  · skip
    obtain ⟨m, kvs, M, rfl, rfl, pq0, pq1⟩ := hI
    refine toWp ?_
    rw [List.take_length] at pq1
    refine frMW pq0 .head (fun H3 hle3 hmf => ?_)
    have hft := KvTo.at_ hf.u (pq1.mono hle3) hmf
    refine sr ?_
    refine la (Says.own .head) Tryz.isAgg88 Tryz.sizeOf88 rfl (Nat.zero_add _).symm rfl rfl ?_
    refine sa Tryz.sizeOf88 rfl rfl rfl rfl rfl (.tail .head) ?_
    refine nl ?_
    refine drW .head ?_
    refine drW (.tail .head) ?_
    exact rC rfl Tryz.isAgg88 Tryz.sizeOf88 rfl .head rfl (le_6.trans (le_8.trans hle3)) (fun _ _ h => h) ⟨rfl, _, rfl, ⟨a1, c1, m, rfl, (hf1.mono (le_8.trans hle3)), hft⟩⟩
theorem make_ProduceRequestTopic {H : Fz} {L : Own} {c : TC} {T : Tr} (hT : TreeAt H c T) (hf : Fine T) :
    Fn Tryz.prog 30 [.agg (c.cells T).toArray] H L (fun v H' L' => L = L' ∧ ∃ cs : List Value, v = .agg cs.toArray ∧ At_ProduceRequestTopic H' T cs) := by
  refine Fn.mk Tryz.call30 Tryz.func30 rfl Tryz.ntmps30 rfl ?_
  refine sr ?_
  refine bx rfl rfl rfl (fun b_1 => ?_)
  refine al Tryz.zeroValue76 rfl rfl (fun b_2 => ?_)
  refine nl ?_
  refine sr ?_
  refine al Tryz.zeroValue76 rfl rfl (fun b_3 => ?_)
  refine nl ?_
  refine sr ?_
  refine la (Says.own (.tail (.tail .head))) Tryz.isAgg39 Tryz.sizeOf39 rfl (Nat.zero_add _).symm rfl rfl ?_
  refine cl rfl rfl rfl (m_at (i := 0) hT) rfl (fun v H1 L1 hle hR => ?_)
  obtain ⟨rfl, rfl, c9, rfl, g9⟩ := hR
  refine fc C39_1 rfl rfl rfl ?_
  refine cbS Tryz.underlying22 Tryz.underlying5 Tryz.underlying9 rfl g9.s rfl rfl ?_
  refine fa0 F76_0 rfl rfl ?_
  refine st Tryz.sizeOf9 rfl rfl rfl rfl .head ?_
  refine nl ?_
  refine sr ?_
  refine la (Says.own (.tail (.tail .head))) Tryz.isAgg39 Tryz.sizeOf39 rfl (Nat.zero_add _).symm rfl rfl ?_
  refine cl rfl rfl rfl (m_at (i := 1) hT) rfl (fun v H1 L1 hle hR => ?_)
  obtain ⟨rfl, rfl, c14, rfl, g14⟩ := hR
  refine fc C39_1 rfl rfl rfl ?_
  refine cl rfl rfl rfl (m_sixteen g14.s) rfl (fun v H1 L1 hle hR => ?_)
  obtain ⟨rfl, rfl, rfl⟩ := hR
  refine fa0 F76_1 rfl rfl ?_
  refine sa Tryz.sizeOf73 rfl rfl rfl rfl rfl .head ?_
  refine nl ?_
  refine sq ?_
  refine sr ?_
  refine la (Says.own (.tail (.tail .head))) Tryz.isAgg39 Tryz.sizeOf39 rfl (Nat.zero_add _).symm rfl rfl ?_
  refine cl rfl rfl rfl (m_at (i := 2) hT) rfl (fun v H1 L1 hle hR => ?_)
  obtain ⟨rfl, rfl, c19, rfl, g19⟩ := hR
  refine fc C39_2 rfl rfl rfl ?_
  refine nt rfl rfl ?_
  refine nl ?_
  refine cutT (fun l' H' L' => ∃ (a2 : Option Addr), ∃ (n2 : Nat), ∃ (c2 : Nat), [(1, .pointer (some ⟨b_1, 0, none⟩)), (2, .pointer (some ⟨b_2, 0, none⟩)), (3, .pointer (some ⟨b_3, 0, none⟩))] = l' ∧ [(b_3, .cells [.string ⟨(T.at 0).s.toArray⟩, ub (T.at 1).s 0, ub (T.at 1).s 1, ub (T.at 1).s 2, ub (T.at 1).s 3, ub (T.at 1).s 4, ub (T.at 1).s 5, ub (T.at 1).s 6, ub (T.at 1).s 7, ub (T.at 1).s 8, ub (T.at 1).s 9, ub (T.at 1).s 10, ub (T.at 1).s 11, ub (T.at 1).s 12, ub (T.at 1).s 13, ub (T.at 1).s 14, ub (T.at 1).s 15, .slice a2 n2 c2, .map none].toArray 76 (0, 0))] :: [(b_2, .cells [.string ⟨#[]⟩, .int .u8 0, .int .u8 0, .int .u8 0, .int .u8 0, .int .u8 0, .int .u8 0, .int .u8 0, .int .u8 0, .int .u8 0, .int .u8 0, .int .u8 0, .int .u8 0, .int .u8 0, .int .u8 0, .int .u8 0, .int .u8 0, .slice none 0 0, .map none].toArray 76 (0, 0))] :: [(b_1, .cells (c.cells T).toArray 39 (0, 0))] :: L = L' ∧ n2 = (lT (T.at 2)).length ∧ ListAt H' (T.at 2) 3 At_ProduceRequestTopicPartition a2 c2) ?_ (fun l' H' L' le_8 hI => ?_)
  · skip
    refine cb rfl (fun h21 => ?_) (fun h21 => ?_)
    · skip
      have hnu : (T.at 2).nul = false := by simpa using h21
      have hlt : lT (T.at 2) = (T.at 2).l := lT_not hnu
      have hfl := (hf.at 2).len
      refine sr ?_
      refine la (Says.own (.tail (.tail .head))) Tryz.isAgg39 Tryz.sizeOf39 rfl (Nat.zero_add _).symm rfl rfl ?_
      refine cl rfl rfl rfl (m_at (i := 2) hT) rfl (fun v H1 L1 hle hR => ?_)
      obtain ⟨rfl, rfl, c23, rfl, g23⟩ := hR
      refine fc C39_3 rfl rfl rfl ?_
      refine ls Tryz.runUnderlying36 rfl rfl ?_
      refine mks (m := 0) (c := (T.at 2).l.length) (zs := [.int .i32 0, .slice none 0 0, .map none]) Tryz.underlying74 I88 rfl rfl rfl rfl rfl (by omega) (by omega) (by unfold maxLen; omega) rfl (fun bm26 N26 r26 => ?_)
      refine fa0 F76_2 rfl rfl ?_
      refine st Tryz.sizeOf74 rfl rfl rfl rfl (.tail .head) ?_
      refine nl ?_
      refine sr ?_
      refine la (Says.own (.tail (.tail (.tail .head)))) Tryz.isAgg39 Tryz.sizeOf39 rfl (Nat.zero_add _).symm rfl rfl ?_
      refine cl rfl rfl rfl (m_at (i := 2) hT) rfl (fun v H1 L1 hle hR => ?_)
      obtain ⟨rfl, rfl, c29, rfl, g29⟩ := hR
      refine fc C39_3 rfl rfl rfl ?_
      refine ls Tryz.runUnderlying36 rfl rfl ?_
      refine mv rfl rfl ?_
      refine nl ?_
      refine fr ((T.at 2).l.length) (fun k l' H' L' => ∃ (a : Option Addr), ∃ (m : Nat), ∃ (c_ : Nat), ∃ (es : List (KE 3)), ∃ (N : Chunk), [(1, .pointer (some ⟨b_1, 0, none⟩)), (2, .pointer (some ⟨b_2, 0, none⟩)), (3, .pointer (some ⟨b_3, 0, none⟩)), (30, .slice c29.la (T.at 2).l.length c29.lc), (31, .int .i64 ((T.at 2).l.length : Int))] = l' ∧ N :: [(b_3, .cells [.string ⟨(T.at 0).s.toArray⟩, ub (T.at 1).s 0, ub (T.at 1).s 1, ub (T.at 1).s 2, ub (T.at 1).s 3, ub (T.at 1).s 4, ub (T.at 1).s 5, ub (T.at 1).s 6, ub (T.at 1).s 7, ub (T.at 1).s 8, ub (T.at 1).s 9, ub (T.at 1).s 10, ub (T.at 1).s 11, ub (T.at 1).s 12, ub (T.at 1).s 13, ub (T.at 1).s 14, ub (T.at 1).s 15, .slice a m c_, .map none].toArray 76 (0, 0))] :: [(b_2, .cells [.string ⟨#[]⟩, .int .u8 0, .int .u8 0, .int .u8 0, .int .u8 0, .int .u8 0, .int .u8 0, .int .u8 0, .int .u8 0, .int .u8 0, .int .u8 0, .int .u8 0, .int .u8 0, .int .u8 0, .int .u8 0, .int .u8 0, .int .u8 0, .slice none 0 0, .map none].toArray 76 (0, 0))] :: [(b_1, .cells (c.cells T).toArray 39 (0, 0))] :: L = L' ∧ Row 88 3 a m c_ (es.flatMap fk) N ∧ m = es.length ∧ (∀ p : KE 3, p ∈ es → At_ProduceRequestTopicPartition H' p.2 (fk p)) ∧ es.map (·.2) = ((T.at 2).l.take k).map id ∧ a.isNone = false) [(1, .pointer (some ⟨b_1, 0, none⟩)), (2, .pointer (some ⟨b_2, 0, none⟩)), (3, .pointer (some ⟨b_3, 0, none⟩)), (30, .slice c29.la (T.at 2).l.length c29.lc), (31, .int .i64 ((T.at 2).l.length : Int))] (fun k l' H' L' h => ?_) (by omega) rfl (.cons rfl (.cons rfl (.cons rfl (.cons rfl (.cons rfl (.nil _)))))) ⟨some ⟨bm26, 0, none⟩, 0, _, [], N26, rfl, rfl, r26, rfl, (fun p hp => by cases hp), (by simp), rfl⟩ rfl rfl rfl rfl rfl (fun k l' H' L' hk le_11 hI => ?_) (fun l' H' L' le_12 hI => ?_)
      · obtain ⟨a, m, c_, es, N, rfl, _⟩ := h; exact ⟨rfl, rfl, rfl, rfl⟩
      · skip
        obtain ⟨a, m, c_, es, N, rfl, rfl, pk0, pk1, pk2, pk3, pk4⟩ := hI
        refine sr ?_
        obtain ⟨b_13, o_14, e_15, g_16⟩ := (g29.l.mono le_11).at_ (ne_nil_of_lt hk)
        obtain ⟨c_17, q_18, q_19⟩ := g_16 k hk
        refine ix2 Tryz.runUnderlying36 Tryz.sizeOf39 rfl e_15 rfl rfl hk rfl ?_
        refine la (Says.fz q_18) Tryz.isAgg39 Tryz.sizeOf39 rfl (Nat.add_zero _).symm rfl rfl ?_
        refine al Tryz.zeroValue39 rfl rfl (fun b_20 => ?_)
        refine sa Tryz.sizeOf39 rfl rfl rfl rfl rfl .head ?_
        refine nl ?_
        refine rgD 7 (.keep (.skip (.keep (.keep (.keep .nil))))) mixed ?_
        refine dT 0 rfl rfl rfl (by kernel_rfl) (fun _ _ _ h => h) (y_fa0 F76_2 rfl) (.keep (.skip (.keep (.keep (.keep .nil))))) (Fz.le.refl _) ?_
        refine dT 1 rfl rfl rfl (by kernel_rfl) (fun _ _ _ h => h) (y_ld (Says.own (.tail .head)) Tryz.isAgg74 rfl (Nat.zero_add _).symm rfl) (.keep (.skip (.keep (.keep (.keep .nil))))) (Fz.le.refl _) ?_
        refine dT 2 rfl rfl rfl (by kernel_rfl) (fun _ _ _ h => h) (y_la (Says.own .head) Tryz.isAgg39 Tryz.sizeOf39 rfl (Nat.zero_add _).symm rfl) (.keep (.skip (.keep (.keep (.keep .nil))))) (Fz.le.refl _) ?_
        refine dE 3 (by kernel_rfl) rfl ?_
        refine cl rfl rfl rfl (make_ProduceRequestTopicPartition q_19 ((hf.at 2).el (List.getElem_mem hk))) rfl (fun v H1 L1 le_21 hR => ?_)
        obtain ⟨rfl, cs39, rfl, g39⟩ := hR
        have ho39 := At_ProduceRequestTopicPartition.ok g39
        have gg39 := g39
        obtain ⟨a1e, c1e, mte, rfl, he0, he1⟩ := g39
        refine dN (.keep (.skip (.keep (.keep (.keep .nil))))) le_21 ?_
        refine dE 4 (by kernel_rfl) rfl ?_
        refine bs' L74 rfl rfl rfl rfl (fun b_22 => ?_)
        refine dN (.skip (.keep (.skip (.keep (.keep (.keep .nil)))))) le_21 ?_
        refine dE 5 (by kernel_rfl) rfl ?_
        have hmk : m = k := by have h1 := congrArg List.length pk3; rw [List.length_map, List.length_map, List.length_take] at h1; omega
        refine ap (news := fk ((⟨_, ho39⟩, (T.at 2).l[k]) : KE 3)) Tryz.underlying74 I88 rfl rfl pk0 (fun _ => (.tail (.tail .head))) (src_says Tryz.underlying74 rfl (fun _ => Says.own .head) (fk_one _)) (by omega) (by unfold maxLen; omega) rfl (fun a41 c41 N41 r41 z41 => ?_)
        rw [flatMap_snoc'] at r41
        have hin : a41.isNone = false := by cases a41 with | none => have := z41.1 rfl; omega | some _ => rfl
        refine dN (.skip (.keep (.skip (.keep (.keep (.keep .nil)))))) le_21 ?_
        refine dT 6 rfl rfl rfl (by kernel_rfl) (fun _ _ _ h => h) (y_fa0 F76_2 rfl) (.skip (.keep (.skip (.keep (.keep (.keep .nil)))))) le_21 ?_
        refine dE 7 (by kernel_rfl) rfl ?_
        refine st Tryz.sizeOf74 rfl rfl rfl rfl (.tail (.tail (.tail .head))) ?_
        refine dNk (by kernel_rfl) ?_
        refine dD (by kernel_rfl) ?_
        refine Nb ?_
        refine drN .head ?_
        refine drN .head ?_
        refine fun a_ w_ hA hw => ⟨_, _, _, hA.sub ?_, (le_11.trans le_21), hw, _, rfl, a41, _, c41, (es ++ [((⟨_, ho39⟩, (T.at 2).l[k]) : KE 3)]), N41, rfl, rfl, r41, (by simp; omega), (fun p hp => (mem_snoc hp).elim (fun h => At_ProduceRequestTopicPartition.mono _ _ _ _ le_21 (pk2 p h)) (fun h => h ▸ At_ProduceRequestTopicPartition.mono _ _ _ _ (Fz.le.refl _) gg39)), (map_take_snoc hk pk3), hin⟩
        exact (.cons rfl (.cons rfl (.cons rfl (.cons rfl (.cons rfl (.cons rfl (.nil _)))))))
      · skip
        obtain ⟨a, m, c_, es, N, rfl, rfl, pk0, pk1, pk2, pk3, pk4⟩ := hI
        refine toNn ?_
        have hm : m = (T.at 2).l.length := by have h1 := congrArg List.length pk3; rw [List.length_map, List.length_map, List.take_length] at h1; omega
        have hfe : es.map (·.2) = (T.at 2).l := by rw [pk3, List.take_length, List.map_id]
        refine frN pk0 .head (fun H2 hle2 hfz => ?_)
        have hrw := RowsAt.row (R := At_ProduceRequestTopicPartition) hfz pk1 pk0.le.1 (fun p hp => At_ProduceRequestTopicPartition.mono _ _ _ _ hle2 (pk2 p hp))
        rw [hfe, ← hlt] at hrw
        have hnl : m = (lT (T.at 2)).length := by rw [hlt]; exact hm
        have hla : ListAt H2 (T.at 2) 3 At_ProduceRequestTopicPartition a c_ := ⟨hrw, by rw [pk4, hnu]⟩
        refine fun a_ w_ hA hw => ⟨_, _, _, hA.sub ?_, (le_12.trans hle2), hw, a, m, c_, rfl, rfl, hnl, hla⟩
        exact (.cons rfl (.cons rfl (.cons rfl (.nil _))))
    · skip
      have hnu : (T.at 2).nul = true := by simpa using h21
      refine skN ?_
      refine fun a_ w_ hA hw => ⟨_, _, _, hA.sub ?_, (Fz.le.refl _), hw, none, 0, 0, rfl, rfl, (by rw [lT_nul hnu]; rfl), (ListAt.none hnu)⟩
      exact (.cons rfl (.cons rfl (.cons rfl (.nil _))))
  · skip
    obtain ⟨a2, n2, c2, rfl, rfl, pj0, pj1⟩ := hI
    subst pj0
    have hf2 := pj1
    refine sq ?_
    refine sr ?_
    refine fa0 F39_4 rfl rfl ?_
    refine ld (Says.own (.tail (.tail .head))) Tryz.isAgg37 rfl (Nat.zero_add _).symm rfl rfl ?_
    refine ls Tryz.runUnderlying37 rfl rfl ?_
    refine mv rfl rfl ?_
    refine nl ?_
    refine nulC2 ?_
    have hun := hf.un
    refine fr (T.u.length) (fun q l' H' L' => ∃ (m : Option Nat), ∃ (kvs : List KV), ∃ (M : Chunk), [(2, .pointer (some ⟨b_2, 0, none⟩)), (3, .pointer (some ⟨b_3, 0, none⟩)), (45, .slice c.ua T.u.length c.uc), (46, .int .i64 (T.u.length : Int))] = l' ∧ M :: [(b_3, .cells [.string ⟨(T.at 0).s.toArray⟩, ub (T.at 1).s 0, ub (T.at 1).s 1, ub (T.at 1).s 2, ub (T.at 1).s 3, ub (T.at 1).s 4, ub (T.at 1).s 5, ub (T.at 1).s 6, ub (T.at 1).s 7, ub (T.at 1).s 8, ub (T.at 1).s 9, ub (T.at 1).s 10, ub (T.at 1).s 11, ub (T.at 1).s 12, ub (T.at 1).s 13, ub (T.at 1).s 14, ub (T.at 1).s 15, .slice a2 (lT (T.at 2)).length c2, .map m].toArray 76 (0, 0))] :: [(b_2, .cells [.string ⟨#[]⟩, .int .u8 0, .int .u8 0, .int .u8 0, .int .u8 0, .int .u8 0, .int .u8 0, .int .u8 0, .int .u8 0, .int .u8 0, .int .u8 0, .int .u8 0, .int .u8 0, .int .u8 0, .int .u8 0, .int .u8 0, .int .u8 0, .slice none 0 0, .map none].toArray 76 (0, 0))] :: [(b_1, .cells (c.cells T).toArray 39 (0, 0))] :: L = L' ∧ MapC m kvs M ∧ KvTo H' (T.u.take q) kvs) [(2, .pointer (some ⟨b_2, 0, none⟩)), (3, .pointer (some ⟨b_3, 0, none⟩)), (45, .slice c.ua T.u.length c.uc), (46, .int .i64 (T.u.length : Int))] (fun q l' H' L' h => ?_) (by omega) rfl (.cons rfl (.cons rfl (.cons rfl (.cons rfl (.nil _))))) ⟨none, [], [], rfl, rfl, MapC.nil, (KvTo.nil _)⟩ rfl rfl rfl rfl rfl (fun q l' H' L' hq le_23 hI => ?_) (fun l' H' L' le_24 hI => ?_)
    · obtain ⟨m, kvs, M, rfl, _⟩ := h; exact ⟨rfl, rfl, rfl, rfl⟩
    · skip
      obtain ⟨m, kvs, M, rfl, rfl, pq0, pq1⟩ := hI
      refine sr ?_
      obtain ⟨b_25, o_26, e_27, g_28⟩ := (hT.u.mono (le_8.trans le_23)).at_ (ne_nil_of_lt hq)
      obtain ⟨c_29, q_30, q_31⟩ := g_28 q hq
      refine ix2 Tryz.runUnderlying37 Tryz.sizeOf65 rfl e_27 rfl rfl hq rfl ?_
      refine la (Says.fz q_30) Tryz.isAgg65 Tryz.sizeOf65 rfl (Nat.add_zero _).symm rfl rfl ?_
      refine al Tryz.zeroValue65 rfl rfl (fun b_32 => ?_)
      refine sa Tryz.sizeOf65 rfl rfl rfl rfl rfl .head ?_
      refine nl ?_
      refine rg ?_
      refine fa0 F76_3 rfl rfl ?_
      refine fa0 F65_0 rfl rfl ?_
      refine ld (Says.own .head) Tryz.isAgg62 rfl (Nat.zero_add _).symm rfl rfl ?_
      refine fa0 F65_1 rfl rfl ?_
      refine ld (Says.own .head) Tryz.isAgg22 rfl (Nat.zero_add _).symm rfl rfl ?_
      refine tf (.tail (.tail .head)) ?_
      refine tf (.tail (.tail .head)) ?_
      refine cl rfl rfl rfl (t_set (cs := [.string ⟨(T.at 0).s.toArray⟩, ub (T.at 1).s 0, ub (T.at 1).s 1, ub (T.at 1).s 2, ub (T.at 1).s 3, ub (T.at 1).s 4, ub (T.at 1).s 5, ub (T.at 1).s 6, ub (T.at 1).s 7, ub (T.at 1).s 8, ub (T.at 1).s 9, ub (T.at 1).s 10, ub (T.at 1).s 11, ub (T.at 1).s 12, ub (T.at 1).s 13, ub (T.at 1).s 14, ub (T.at 1).s 15, .slice a2 (lT (T.at 2)).length c2, .map m]) (off := 18) pq0 rfl) rfl (fun v H1 L1 hle hR => ?_)
      obtain ⟨rfl, g56, cs56, hs56, rfl⟩ := hR
      obtain rfl : [.string ⟨(T.at 0).s.toArray⟩, ub (T.at 1).s 0, ub (T.at 1).s 1, ub (T.at 1).s 2, ub (T.at 1).s 3, ub (T.at 1).s 4, ub (T.at 1).s 5, ub (T.at 1).s 6, ub (T.at 1).s 7, ub (T.at 1).s 8, ub (T.at 1).s 9, ub (T.at 1).s 10, ub (T.at 1).s 11, ub (T.at 1).s 12, ub (T.at 1).s 13, ub (T.at 1).s 14, ub (T.at 1).s 15, .slice a2 (lT (T.at 2)).length c2, .map (some g56)] = cs56 := Option.some.inj hs56
      refine nN ?_
      refine Nb ?_
      refine drN (.tail (.tail .head)) ?_
      refine fun a_ w_ hA hw => ⟨_, _, _, hA.sub ?_, le_23, hw, _, rfl, _, _, [(g56, _)], rfl, rfl, (.inr ⟨g56, rfl, rfl⟩), (KvTo.put hf.u (List.getElem?_eq_getElem hq) pq1 (⟨⟨_, _, rfl, q_31.val⟩, q_31.lo, q_31.hi⟩))⟩
      exact (.cons rfl (.cons rfl (.cons rfl (.cons rfl (.cons rfl (.nil _))))))
    · skip
      obtain ⟨m, kvs, M, rfl, rfl, pq0, pq1⟩ := hI
      refine toWp ?_
      rw [List.take_length] at pq1
      refine frMW pq0 .head (fun H3 hle3 hmf => ?_)
      have hft := KvTo.at_ hf.u (pq1.mono hle3) hmf
      refine sr ?_
      refine la (Says.own .head) Tryz.isAgg76 Tryz.sizeOf76 rfl (Nat.zero_add _).symm rfl rfl ?_
      refine sa Tryz.sizeOf76 rfl rfl rfl rfl rfl (.tail .head) ?_
      refine nl ?_
      refine drW .head ?_
      refine drW (.tail .head) ?_
      exact rC rfl Tryz.isAgg76 Tryz.sizeOf76 rfl .head rfl (le_8.trans (le_24.trans hle3)) (fun _ _ h => h) ⟨rfl, _, rfl, ⟨a2, c2, m, rfl, (hf2.mono At_ProduceRequestTopicPartition.mono (le_24.trans hle3)), hft⟩⟩
theorem fill_ProduceRequest {H : Fz} {L : Own} {b : Nat} {ver : Int} {c : TC} {T : Tr} (hT : TreeAt H c T) (hf : Fine T) :
    Fn Tryz.prog 18 [.pointer (some ⟨b, 0, none⟩), .agg (c.cells T).toArray] H ([(b, .cells [.int .i16 ver, .pointer none, .int .i16 0, .int .i32 0, .slice none 0 0, .map none].toArray 58 (0, 0))] :: L) (fun _ H' L' => ∃ cs : List Value, L' = [(b, .cells cs.toArray 58 (0, 0))] :: L ∧ At_ProduceRequest ver H' T cs) := by
  refine Fn.mk Tryz.call18 Tryz.func18 rfl Tryz.ntmps18 rfl ?_
  refine sr ?_
  refine bx rfl rfl rfl (fun b_1 => ?_)
  refine nl ?_
  refine sr ?_
  refine mv rfl rfl ?_
  refine la (Says.own .head) Tryz.isAgg39 Tryz.sizeOf39 rfl (Nat.zero_add _).symm rfl rfl ?_
  refine cl rfl rfl rfl (m_at (i := 0) hT) rfl (fun v H1 L1 hle hR => ?_)
  obtain ⟨rfl, rfl, c10, rfl, g10⟩ := hR
  refine cl rfl rfl rfl (m_textOf g10) rfl (fun v H1 L1 le_3 hR => ?_)
  obtain ⟨rfl, p0, rfl, hf0⟩ := hR
  refine nc rfl rfl ?_
  refine fa0 F58_1 rfl rfl ?_
  refine st Tryz.sizeOf52 rfl rfl rfl rfl (.tail .head) ?_
  refine nl ?_
  refine sr ?_
  refine mv rfl rfl ?_
  refine la (Says.own .head) Tryz.isAgg39 Tryz.sizeOf39 rfl (Nat.zero_add _).symm rfl rfl ?_
  refine cl rfl rfl rfl (m_at (i := 1) (hT.mono le_3)) rfl (fun v H1 L1 hle hR => ?_)
  obtain ⟨rfl, rfl, c16, rfl, g16⟩ := hR
  refine fc C39_0 rfl rfl rfl ?_
  refine cv Tryz.runUnderlying2 Tryz.runUnderlying45 rfl rfl rfl ?_
  refine nc rfl rfl ?_
  refine fa0 F58_2 rfl rfl ?_
  refine st Tryz.sizeOf45 rfl rfl rfl rfl (.tail .head) ?_
  refine nl ?_
  refine sr ?_
  refine mv rfl rfl ?_
  refine la (Says.own .head) Tryz.isAgg39 Tryz.sizeOf39 rfl (Nat.zero_add _).symm rfl rfl ?_
  refine cl rfl rfl rfl (m_at (i := 2) (hT.mono le_3)) rfl (fun v H1 L1 hle hR => ?_)
  obtain ⟨rfl, rfl, c23, rfl, g23⟩ := hR
  refine fc C39_0 rfl rfl rfl ?_
  refine cv Tryz.runUnderlying2 Tryz.runUnderlying21 rfl rfl rfl ?_
  refine nc rfl rfl ?_
  refine fa0 F58_3 rfl rfl ?_
  refine st Tryz.sizeOf21 rfl rfl rfl rfl (.tail .head) ?_
  refine nl ?_
  refine sq ?_
  refine sr ?_
  refine la (Says.own .head) Tryz.isAgg39 Tryz.sizeOf39 rfl (Nat.zero_add _).symm rfl rfl ?_
  refine cl rfl rfl rfl (m_at (i := 3) (hT.mono le_3)) rfl (fun v H1 L1 hle hR => ?_)
  obtain ⟨rfl, rfl, c29, rfl, g29⟩ := hR
  refine fc C39_2 rfl rfl rfl ?_
  refine nt rfl rfl ?_
  refine nl ?_
  refine cutT (fun l' H' L' => ∃ (a3 : Option Addr), ∃ (n3 : Nat), ∃ (c3 : Nat), [(0, .pointer (some ⟨b, 0, none⟩)), (3, .pointer (some ⟨b_1, 0, none⟩))] = l' ∧ [(b_1, .cells (c.cells T).toArray 39 (0, 0))] :: [(b, .cells [.int .i16 ver, .pointer p0, .int .i16 (IntKind.i16.wrap (T.at 1).n), .int .i32 (IntKind.i32.wrap (T.at 2).n), .slice a3 n3 c3, .map none].toArray 58 (0, 0))] :: L = L' ∧ n3 = (lT (T.at 3)).length ∧ ListAt H' (T.at 3) 19 At_ProduceRequestTopic a3 c3) ?_ (fun l' H' L' le_7 hI => ?_)
  · skip
    refine cb rfl (fun h31 => ?_) (fun h31 => ?_)
    · skip
      have hnu : (T.at 3).nul = false := by simpa using h31
      have hlt : lT (T.at 3) = (T.at 3).l := lT_not hnu
      have hfl := (hf.at 3).len
      refine sr ?_
      refine mv rfl rfl ?_
      refine la (Says.own .head) Tryz.isAgg39 Tryz.sizeOf39 rfl (Nat.zero_add _).symm rfl rfl ?_
      refine cl rfl rfl rfl (m_at (i := 3) (hT.mono le_3)) rfl (fun v H1 L1 hle hR => ?_)
      obtain ⟨rfl, rfl, c34, rfl, g34⟩ := hR
      refine fc C39_3 rfl rfl rfl ?_
      refine ls Tryz.runUnderlying36 rfl rfl ?_
      refine mks (m := 0) (c := (T.at 3).l.length) (zs := [.string ⟨#[]⟩, .int .u8 0, .int .u8 0, .int .u8 0, .int .u8 0, .int .u8 0, .int .u8 0, .int .u8 0, .int .u8 0, .int .u8 0, .int .u8 0, .int .u8 0, .int .u8 0, .int .u8 0, .int .u8 0, .int .u8 0, .int .u8 0, .slice none 0 0, .map none]) Tryz.underlying53 I76 rfl rfl rfl rfl rfl (by omega) (by omega) (by unfold maxLen; omega) rfl (fun bm37 N37 r37 => ?_)
      refine nc rfl rfl ?_
      refine fa0 F58_4 rfl rfl ?_
      refine st Tryz.sizeOf53 rfl rfl rfl rfl (.tail (.tail .head)) ?_
      refine nl ?_
      refine sr ?_
      refine la (Says.own (.tail .head)) Tryz.isAgg39 Tryz.sizeOf39 rfl (Nat.zero_add _).symm rfl rfl ?_
      refine cl rfl rfl rfl (m_at (i := 3) (hT.mono le_3)) rfl (fun v H1 L1 hle hR => ?_)
      obtain ⟨rfl, rfl, c41, rfl, g41⟩ := hR
      refine fc C39_3 rfl rfl rfl ?_
      refine ls Tryz.runUnderlying36 rfl rfl ?_
      refine mv rfl rfl ?_
      refine nl ?_
      refine fr ((T.at 3).l.length) (fun k l' H' L' => ∃ (a : Option Addr), ∃ (m : Nat), ∃ (c_ : Nat), ∃ (es : List (KE 19)), ∃ (N : Chunk), [(0, .pointer (some ⟨b, 0, none⟩)), (3, .pointer (some ⟨b_1, 0, none⟩)), (42, .slice c41.la (T.at 3).l.length c41.lc), (43, .int .i64 ((T.at 3).l.length : Int))] = l' ∧ N :: [(b_1, .cells (c.cells T).toArray 39 (0, 0))] :: [(b, .cells [.int .i16 ver, .pointer p0, .int .i16 (IntKind.i16.wrap (T.at 1).n), .int .i32 (IntKind.i32.wrap (T.at 2).n), .slice a m c_, .map none].toArray 58 (0, 0))] :: L = L' ∧ Row 76 19 a m c_ (es.flatMap fk) N ∧ m = es.length ∧ (∀ p : KE 19, p ∈ es → At_ProduceRequestTopic H' p.2 (fk p)) ∧ es.map (·.2) = ((T.at 3).l.take k).map id ∧ a.isNone = false) [(0, .pointer (some ⟨b, 0, none⟩)), (3, .pointer (some ⟨b_1, 0, none⟩)), (42, .slice c41.la (T.at 3).l.length c41.lc), (43, .int .i64 ((T.at 3).l.length : Int))] (fun k l' H' L' h => ?_) (by omega) rfl (.cons rfl (.cons rfl (.cons rfl (.cons rfl (.nil _))))) ⟨some ⟨bm37, 0, none⟩, 0, _, [], N37, rfl, rfl, r37, rfl, (fun p hp => by cases hp), (by simp), rfl⟩ rfl rfl rfl rfl rfl (fun k l' H' L' hk le_10 hI => ?_) (fun l' H' L' le_11 hI => ?_)
      · obtain ⟨a, m, c_, es, N, rfl, _⟩ := h; exact ⟨rfl, rfl, rfl, rfl⟩
      · skip
        obtain ⟨a, m, c_, es, N, rfl, rfl, pk0, pk1, pk2, pk3, pk4⟩ := hI
        refine sr ?_
        obtain ⟨b_12, o_13, e_14, g_15⟩ := (g41.l.mono le_10).at_ (ne_nil_of_lt hk)
        obtain ⟨c_16, q_17, q_18⟩ := g_15 k hk
        refine ix2 Tryz.runUnderlying36 Tryz.sizeOf39 rfl e_14 rfl rfl hk rfl ?_
        refine la (Says.fz q_17) Tryz.isAgg39 Tryz.sizeOf39 rfl (Nat.add_zero _).symm rfl rfl ?_
        refine al Tryz.zeroValue39 rfl rfl (fun b_19 => ?_)
        refine sa Tryz.sizeOf39 rfl rfl rfl rfl rfl .head ?_
        refine nl ?_
        refine rgD 11 (.keep (.skip (.keep (.keep .nil)))) mixed ?_
        refine dT 0 rfl rfl rfl (by kernel_rfl) (fun _ _ _ h => h) (y_mv rfl) (.keep (.skip (.keep (.keep .nil)))) (Fz.le.refl _) ?_
        refine dT 1 rfl rfl rfl (by kernel_rfl) (fun _ _ _ h => h) (y_mv rfl) (.keep (.skip (.keep (.keep .nil)))) (Fz.le.refl _) ?_
        refine dT 2 rfl rfl rfl (by kernel_rfl) (fun _ _ _ h => h) (y_nc rfl) (.keep (.skip (.keep (.keep .nil)))) (Fz.le.refl _) ?_
        refine dT 3 rfl rfl rfl (by kernel_rfl) (fun _ _ _ h => h) (y_fa0 F58_4 rfl) (.keep (.skip (.keep (.keep .nil)))) (Fz.le.refl _) ?_
        refine dT 4 rfl rfl rfl (by kernel_rfl) (fun _ _ _ h => h) (y_ld (Says.own (.tail (.tail .head))) Tryz.isAgg53 rfl (Nat.zero_add _).symm rfl) (.keep (.skip (.keep (.keep .nil)))) (Fz.le.refl _) ?_
        refine dT 5 rfl rfl rfl (by kernel_rfl) (fun _ _ _ h => h) (y_la (Says.own .head) Tryz.isAgg39 Tryz.sizeOf39 rfl (Nat.zero_add _).symm rfl) (.keep (.skip (.keep (.keep .nil)))) (Fz.le.refl _) ?_
        refine dE 6 (by kernel_rfl) rfl ?_
        refine cl rfl rfl rfl (make_ProduceRequestTopic q_18 ((hf.at 3).el (List.getElem_mem hk))) rfl (fun v H1 L1 le_20 hR => ?_)
        obtain ⟨rfl, cs54, rfl, g54⟩ := hR
        have ho54 := At_ProduceRequestTopic.ok g54
        have gg54 := g54
        obtain ⟨a2e, c2e, mte, rfl, he0, he1⟩ := g54
        refine dN (.keep (.skip (.keep (.keep .nil)))) le_20 ?_
        refine dE 7 (by kernel_rfl) rfl ?_
        refine bs' L53 rfl rfl rfl rfl (fun b_21 => ?_)
        refine dN (.skip (.keep (.skip (.keep (.keep .nil))))) le_20 ?_
        refine dE 8 (by kernel_rfl) rfl ?_
        have hmk : m = k := by have h1 := congrArg List.length pk3; rw [List.length_map, List.length_map, List.length_take] at h1; omega
        refine ap (news := fk ((⟨_, ho54⟩, (T.at 3).l[k]) : KE 19)) Tryz.underlying53 I76 rfl rfl pk0 (fun _ => (.tail (.tail .head))) (src_says Tryz.underlying53 rfl (fun _ => Says.own .head) (fk_one _)) (by omega) (by unfold maxLen; omega) rfl (fun a56 c56 N56 r56 z56 => ?_)
        rw [flatMap_snoc'] at r56
        have hin : a56.isNone = false := by cases a56 with | none => have := z56.1 rfl; omega | some _ => rfl
        refine dN (.skip (.keep (.skip (.keep (.keep .nil))))) le_20 ?_
        refine dE 9 (by kernel_rfl) rfl ?_
        refine nc rfl rfl ?_
        refine dN (.skip (.keep (.skip (.keep (.keep .nil))))) le_20 ?_
        refine dT 10 rfl rfl rfl (by kernel_rfl) (fun _ _ _ h => h) (y_fa0 F58_4 rfl) (.skip (.keep (.skip (.keep (.keep .nil))))) le_20 ?_
        refine dE 11 (by kernel_rfl) rfl ?_
        refine st Tryz.sizeOf53 rfl rfl rfl rfl (.tail (.tail (.tail (.tail .head)))) ?_
        refine dNk (by kernel_rfl) ?_
        refine dD (by kernel_rfl) ?_
        refine Nb ?_
        refine drN .head ?_
        refine drN .head ?_
        refine fun a_ w_ hA hw => ⟨_, _, _, hA.sub ?_, (le_10.trans le_20), hw, _, rfl, a56, _, c56, (es ++ [((⟨_, ho54⟩, (T.at 3).l[k]) : KE 19)]), N56, rfl, rfl, r56, (by simp; omega), (fun p hp => (mem_snoc hp).elim (fun h => At_ProduceRequestTopic.mono _ _ _ _ le_20 (pk2 p h)) (fun h => h ▸ At_ProduceRequestTopic.mono _ _ _ _ (Fz.le.refl _) gg54)), (map_take_snoc hk pk3), hin⟩
        exact (.cons rfl (.cons rfl (.cons rfl (.cons rfl (.cons rfl (.nil _))))))
      · skip
        obtain ⟨a, m, c_, es, N, rfl, rfl, pk0, pk1, pk2, pk3, pk4⟩ := hI
        refine toNn ?_
        have hm : m = (T.at 3).l.length := by have h1 := congrArg List.length pk3; rw [List.length_map, List.length_map, List.take_length] at h1; omega
        have hfe : es.map (·.2) = (T.at 3).l := by rw [pk3, List.take_length, List.map_id]
        refine frN pk0 .head (fun H2 hle2 hfz => ?_)
        have hrw := RowsAt.row (R := At_ProduceRequestTopic) hfz pk1 pk0.le.1 (fun p hp => At_ProduceRequestTopic.mono _ _ _ _ hle2 (pk2 p hp))
        rw [hfe, ← hlt] at hrw
        have hnl : m = (lT (T.at 3)).length := by rw [hlt]; exact hm
        have hla : ListAt H2 (T.at 3) 19 At_ProduceRequestTopic a c_ := ⟨hrw, by rw [pk4, hnu]⟩
        refine fun a_ w_ hA hw => ⟨_, _, _, hA.sub ?_, (le_11.trans hle2), hw, a, m, c_, rfl, rfl, hnl, hla⟩
        exact (.cons rfl (.cons rfl (.nil _)))
    · skip
      have hnu : (T.at 3).nul = true := by simpa using h31
      refine skN ?_
      refine fun a_ w_ hA hw => ⟨_, _, _, hA.sub ?_, (Fz.le.refl _), hw, none, 0, 0, rfl, rfl, (by rw [lT_nul hnu]; rfl), (ListAt.none hnu)⟩
      exact (.cons rfl (.cons rfl (.nil _)))
  · skip
    obtain ⟨a3, n3, c3, rfl, rfl, pj0, pj1⟩ := hI
    subst pj0
    have hf3 := pj1
    refine sr ?_
    refine fa0 F39_4 rfl rfl ?_
    refine ld (Says.own .head) Tryz.isAgg37 rfl (Nat.zero_add _).symm rfl rfl ?_
    refine ls Tryz.runUnderlying37 rfl rfl ?_
    refine mv rfl rfl ?_
    refine nl ?_
    refine nulC2 ?_
    have hun := hf.un
    refine fr (T.u.length) (fun q l' H' L' => ∃ (m : Option Nat), ∃ (kvs : List KV), ∃ (M : Chunk), [(0, .pointer (some ⟨b, 0, none⟩)), (61, .slice c.ua T.u.length c.uc), (62, .int .i64 (T.u.length : Int))] = l' ∧ M :: [(b_1, .cells (c.cells T).toArray 39 (0, 0))] :: [(b, .cells [.int .i16 ver, .pointer p0, .int .i16 (IntKind.i16.wrap (T.at 1).n), .int .i32 (IntKind.i32.wrap (T.at 2).n), .slice a3 (lT (T.at 3)).length c3, .map m].toArray 58 (0, 0))] :: L = L' ∧ MapC m kvs M ∧ KvTo H' (T.u.take q) kvs) [(0, .pointer (some ⟨b, 0, none⟩)), (61, .slice c.ua T.u.length c.uc), (62, .int .i64 (T.u.length : Int))] (fun q l' H' L' h => ?_) (by omega) rfl (.cons rfl (.cons rfl (.cons rfl (.nil _)))) ⟨none, [], [], rfl, rfl, MapC.nil, (KvTo.nil _)⟩ rfl rfl rfl rfl rfl (fun q l' H' L' hq le_22 hI => ?_) (fun l' H' L' le_23 hI => ?_)
    · obtain ⟨m, kvs, M, rfl, _⟩ := h; exact ⟨rfl, rfl, rfl, rfl⟩
    · skip
      obtain ⟨m, kvs, M, rfl, rfl, pq0, pq1⟩ := hI
      refine sr ?_
      obtain ⟨b_24, o_25, e_26, g_27⟩ := (hT.u.mono (le_3.trans (le_7.trans le_22))).at_ (ne_nil_of_lt hq)
      obtain ⟨c_28, q_29, q_30⟩ := g_27 q hq
      refine ix2 Tryz.runUnderlying37 Tryz.sizeOf65 rfl e_26 rfl rfl hq rfl ?_
      refine la (Says.fz q_29) Tryz.isAgg65 Tryz.sizeOf65 rfl (Nat.add_zero _).symm rfl rfl ?_
      refine al Tryz.zeroValue65 rfl rfl (fun b_31 => ?_)
      refine sa Tryz.sizeOf65 rfl rfl rfl rfl rfl .head ?_
      refine nl ?_
      refine rgD 8 (.keep (.skip (.keep .nil))) mixed ?_
      refine dT 0 rfl rfl rfl (by kernel_rfl) (fun _ _ _ h => h) (y_mv rfl) (.keep (.skip (.keep .nil))) (Fz.le.refl _) ?_
      refine dT 1 rfl rfl rfl (by kernel_rfl) (fun _ _ _ h => h) (y_nc rfl) (.keep (.skip (.keep .nil))) (Fz.le.refl _) ?_
      refine dT 2 rfl rfl rfl (by kernel_rfl) (fun _ _ _ h => h) (y_fa0 F58_5 rfl) (.keep (.skip (.keep .nil))) (Fz.le.refl _) ?_
      refine dT 3 rfl rfl rfl (by kernel_rfl) (fun _ _ _ h => h) (y_fa0 F65_0 rfl) (.keep (.skip (.keep .nil))) (Fz.le.refl _) ?_
      refine dT 4 rfl rfl rfl (by kernel_rfl) (fun _ _ _ h => h) (y_ld (Says.own .head) Tryz.isAgg62 rfl (Nat.zero_add _).symm rfl) (.keep (.skip (.keep .nil))) (Fz.le.refl _) ?_
      refine dT 5 rfl rfl rfl (by kernel_rfl) (fun _ _ _ h => h) (y_fa0 F65_1 rfl) (.keep (.skip (.keep .nil))) (Fz.le.refl _) ?_
      refine dT 6 rfl rfl rfl (by kernel_rfl) (fun _ _ _ h => h) (y_ld (Says.own .head) Tryz.isAgg22 rfl (Nat.zero_add _).symm rfl) (.keep (.skip (.keep .nil))) (Fz.le.refl _) ?_
      refine dE 7 (by kernel_rfl) rfl ?_
      refine tf (.tail (.tail (.tail .head))) ?_
      refine tf (.tail (.tail .head)) ?_
      refine cl rfl rfl rfl (t_set (cs := [.int .i16 ver, .pointer p0, .int .i16 (IntKind.i16.wrap (T.at 1).n), .int .i32 (IntKind.i32.wrap (T.at 2).n), .slice a3 (lT (T.at 3)).length c3, .map m]) (off := 5) pq0 rfl) rfl (fun v H1 L1 hle hR => ?_)
      obtain ⟨rfl, g74, cs74, hs74, rfl⟩ := hR
      obtain rfl : [.int .i16 ver, .pointer p0, .int .i16 (IntKind.i16.wrap (T.at 1).n), .int .i32 (IntKind.i32.wrap (T.at 2).n), .slice a3 (lT (T.at 3)).length c3, .map (some g74)] = cs74 := Option.some.inj hs74
      refine dN (.skip (.skip (.keep (.keep .nil)))) (Fz.le.refl _) ?_
      refine dD (by kernel_rfl) ?_
      refine Nb ?_
      refine drN (.tail (.tail .head)) ?_
      refine tfN (.tail .head) ?_
      refine tfN (.tail (.tail .head)) ?_
      refine tfN (.tail (.tail .head)) ?_
      refine fun a_ w_ hA hw => ⟨_, _, _, hA.sub ?_, le_22, hw, _, rfl, _, _, [(g74, _)], rfl, rfl, (.inr ⟨g74, rfl, rfl⟩), (KvTo.put hf.u (List.getElem?_eq_getElem hq) pq1 (⟨⟨_, _, rfl, q_30.val⟩, q_30.lo, q_30.hi⟩))⟩
      exact (.cons rfl (.cons rfl (.cons rfl (.cons rfl (.nil _)))))
    · skip
      obtain ⟨m, kvs, M, rfl, rfl, pq0, pq1⟩ := hI
      refine toNn ?_
      rw [List.take_length] at pq1
      refine frMN pq0 .head (fun H3 hle3 hmf => ?_)
      have hft := KvTo.at_ hf.u (pq1.mono hle3) hmf
      refine drN .head ?_
      exact fun _ _ hA hw => rn rfl (le_3.trans (le_7.trans (le_23.trans hle3))) ⟨_, rfl, ⟨p0, a3, c3, m, rfl, (hf0.mono (le_7.trans (le_23.trans hle3))), (hf3.mono At_ProduceRequestTopic.mono (le_23.trans hle3)), hft⟩⟩ hA hw
end Go.Sx

import Derived.Test.YtahmkeoedpghjaaBDescribeLogDirsResponse
import Derived.Test.YtahmkeoedpghjaaD0
import Derived.KernelRfl
set_option linter.unusedVariables false
set_option linter.unusedSimpArgs false
set_option maxRecDepth 100000
set_option maxHeartbeats 20000000
namespace Go.Sx
open Go.Proofs
theorem make_DescribeLogDirsResponseDirTopicPartition {H : Fz} {L : Own} {c : TC} {T : Tr} (hT : TreeAt H c T) (hf : Fine T) :
    Fn Try.prog 187 [.agg (c.cells T).toArray] H L (fun v H' L' => L = L' ∧ ∃ cs : List Value, v = .agg cs.toArray ∧ At_DescribeLogDirsResponseDirTopicPartition H' T cs) := by
  refine Fn.mk Try.call187 Try.func187 rfl Try.ntmps187 rfl ?_
  refine sr ?_
  refine bx rfl rfl rfl (fun b_1 => ?_)
  refine al Try.zeroValue194 rfl rfl (fun b_2 => ?_)
  refine nl ?_
  refine sr ?_
  refine al Try.zeroValue194 rfl rfl (fun b_3 => ?_)
  refine nl ?_
  refine sr ?_
  refine la (Says.own (.tail (.tail .head))) Try.isAgg39 Try.sizeOf39 rfl (Nat.zero_add _).symm rfl rfl ?_
  refine cl rfl rfl rfl (m_at (i := 0) hT) rfl (fun v H1 L1 hle hR => ?_)
  obtain ⟨rfl, rfl, c7, rfl, g7⟩ := hR
  refine fc C39_0 rfl rfl rfl ?_
  refine cv Try.runUnderlying2 Try.runUnderlying21 rfl rfl rfl ?_
  refine fa0 F194_0 rfl rfl ?_
  refine st Try.sizeOf21 rfl rfl rfl rfl .head ?_
  refine nl ?_
  refine sr ?_
  refine la (Says.own (.tail (.tail .head))) Try.isAgg39 Try.sizeOf39 rfl (Nat.zero_add _).symm rfl rfl ?_
  refine cl rfl rfl rfl (m_at (i := 1) hT) rfl (fun v H1 L1 hle hR => ?_)
  obtain ⟨rfl, rfl, c12, rfl, g12⟩ := hR
  refine fc C39_0 rfl rfl rfl ?_
  refine fa0 F194_1 rfl rfl ?_
  refine st Try.sizeOf2 rfl rfl rfl rfl .head ?_
  refine nl ?_
  refine sr ?_
  refine la (Says.own (.tail (.tail .head))) Try.isAgg39 Try.sizeOf39 rfl (Nat.zero_add _).symm rfl rfl ?_
  refine cl rfl rfl rfl (m_at (i := 2) hT) rfl (fun v H1 L1 hle hR => ?_)
  obtain ⟨rfl, rfl, c16, rfl, g16⟩ := hR
  refine fc C39_0 rfl rfl rfl ?_
  refine fa0 F194_2 rfl rfl ?_
  refine st Try.sizeOf2 rfl rfl rfl rfl .head ?_
  refine nl ?_
  refine sr ?_
  refine la (Says.own (.tail (.tail .head))) Try.isAgg39 Try.sizeOf39 rfl (Nat.zero_add _).symm rfl rfl ?_
  refine cl rfl rfl rfl (m_at (i := 3) hT) rfl (fun v H1 L1 hle hR => ?_)
  obtain ⟨rfl, rfl, c20, rfl, g20⟩ := hR
  refine fc C39_0 rfl rfl rfl ?_
  refine an rfl rfl (and1_i64 _) rfl ?_
  refine eq' rfl rfl rfl ?_
  refine fa0 F194_3 rfl rfl ?_
  refine st Try.sizeOf4 rfl rfl rfl rfl .head ?_
  refine nl ?_
  refine sq ?_
  refine sr ?_
  refine fa0 F39_4 rfl rfl ?_
  refine ld (Says.own (.tail (.tail .head))) Try.isAgg37 rfl (Nat.zero_add _).symm rfl rfl ?_
  refine ls Try.runUnderlying37 rfl rfl ?_
  refine mv rfl rfl ?_
  refine nl ?_
  refine nulC2 ?_
  have hun := hf.un
  refine fr (T.u.length) (fun q l' H' L' => ∃ (m : Option Nat), ∃ (kvs : List KV), ∃ (M : Chunk), [(2, .pointer (some ⟨b_2, 0, none⟩)), (3, .pointer (some ⟨b_3, 0, none⟩)), (26, .slice c.ua T.u.length c.uc), (27, .int .i64 (T.u.length : Int))] = l' ∧ M :: [(b_3, .cells [.int .i32 (IntKind.i32.wrap (T.at 0).n), .int .i64 (T.at 1).n, .int .i64 (T.at 2).n, .bool (decide ((T.at 3).n % 2 = 1)), .map m].toArray 194 (0, 0))] :: [(b_2, .cells [.int .i32 0, .int .i64 0, .int .i64 0, .bool false, .map none].toArray 194 (0, 0))] :: [(b_1, .cells (c.cells T).toArray 39 (0, 0))] :: L = L' ∧ MapC m kvs M ∧ KvTo H' (T.u.take q) kvs) [(2, .pointer (some ⟨b_2, 0, none⟩)), (3, .pointer (some ⟨b_3, 0, none⟩)), (26, .slice c.ua T.u.length c.uc), (27, .int .i64 (T.u.length : Int))] (fun q l' H' L' h => ?_) (by omega) rfl (.cons rfl (.cons rfl (.cons rfl (.cons rfl (.nil _))))) ⟨none, [], [], rfl, rfl, MapC.nil, (KvTo.nil _)⟩ rfl rfl rfl rfl rfl (fun q l' H' L' hq le_8 hI => ?_) (fun l' H' L' le_9 hI => ?_)
  · obtain ⟨m, kvs, M, rfl, _⟩ := h; exact ⟨rfl, rfl, rfl, rfl⟩
  · skip
    obtain ⟨m, kvs, M, rfl, rfl, pq0, pq1⟩ := hI
    refine sr ?_
    obtain ⟨b_10, o_11, e_12, g_13⟩ := (hT.u.mono le_8).at_ (ne_nil_of_lt hq)
    obtain ⟨c_14, q_15, q_16⟩ := g_13 q hq
    refine ix2 Try.runUnderlying37 Try.sizeOf63 rfl e_12 rfl rfl hq rfl ?_
    refine la (Says.fz q_15) Try.isAgg63 Try.sizeOf63 rfl (Nat.add_zero _).symm rfl rfl ?_
    refine al Try.zeroValue63 rfl rfl (fun b_17 => ?_)
    refine sa Try.sizeOf63 rfl rfl rfl rfl rfl .head ?_
    refine nl ?_
    refine rg ?_
    refine fa0 F194_4 rfl rfl ?_
    refine fa0 F63_0 rfl rfl ?_
    refine ld (Says.own .head) Try.isAgg60 rfl (Nat.zero_add _).symm rfl rfl ?_
    refine fa0 F63_1 rfl rfl ?_
    refine ld (Says.own .head) Try.isAgg22 rfl (Nat.zero_add _).symm rfl rfl ?_
    refine tf (.tail (.tail .head)) ?_
    refine tf (.tail (.tail .head)) ?_
    refine cl rfl rfl rfl (t_set (cs := [.int .i32 (IntKind.i32.wrap (T.at 0).n), .int .i64 (T.at 1).n, .int .i64 (T.at 2).n, .bool (decide ((T.at 3).n % 2 = 1)), .map m]) (off := 4) pq0 rfl) rfl (fun v H1 L1 hle hR => ?_)
    obtain ⟨rfl, g37, cs37, hs37, rfl⟩ := hR
    obtain rfl : [.int .i32 (IntKind.i32.wrap (T.at 0).n), .int .i64 (T.at 1).n, .int .i64 (T.at 2).n, .bool (decide ((T.at 3).n % 2 = 1)), .map (some g37)] = cs37 := Option.some.inj hs37
    refine nN ?_
    refine Nb ?_
    refine drN (.tail (.tail .head)) ?_
    refine fun a_ w_ hA hw => ⟨_, _, _, hA.sub ?_, le_8, hw, _, rfl, _, _, [(g37, _)], rfl, rfl, (.inr ⟨g37, rfl, rfl⟩), (KvTo.put hf.u (List.getElem?_eq_getElem hq) pq1 (⟨⟨_, _, rfl, q_16.val⟩, q_16.lo, q_16.hi⟩))⟩
    exact (.cons rfl (.cons rfl (.cons rfl (.cons rfl (.cons rfl (.nil _))))))
  · skip
    obtain ⟨m, kvs, M, rfl, rfl, pq0, pq1⟩ := hI
    refine toWp ?_
    rw [List.take_length] at pq1
    refine frMW pq0 .head (fun H3 hle3 hmf => ?_)
    have hft := KvTo.at_ hf.u (pq1.mono hle3) hmf
    refine sr ?_
    refine la (Says.own .head) Try.isAgg194 Try.sizeOf194 rfl (Nat.zero_add _).symm rfl rfl ?_
    refine sa Try.sizeOf194 rfl rfl rfl rfl rfl (.tail .head) ?_
    refine nl ?_
    refine drW .head ?_
    refine drW (.tail .head) ?_
    exact rC rfl Try.isAgg194 Try.sizeOf194 rfl .head rfl (le_9.trans hle3) (fun _ _ h => h) ⟨rfl, _, rfl, ⟨m, rfl, hft⟩⟩
theorem make_DescribeLogDirsResponseDirTopic {H : Fz} {L : Own} {c : TC} {T : Tr} (hT : TreeAt H c T) (hf : Fine T) :
    Fn Try.prog 182 [.agg (c.cells T).toArray] H L (fun v H' L' => L = L' ∧ ∃ cs : List Value, v = .agg cs.toArray ∧ At_DescribeLogDirsResponseDirTopic H' T cs) := by
  refine Fn.mk Try.call182 Try.func182 rfl Try.ntmps182 rfl ?_
  refine sr ?_
  refine bx rfl rfl rfl (fun b_1 => ?_)
  refine al Try.zeroValue191 rfl rfl (fun b_2 => ?_)
  refine nl ?_
  refine sr ?_
  refine al Try.zeroValue191 rfl rfl (fun b_3 => ?_)
  refine nl ?_
  refine sr ?_
  refine la (Says.own (.tail (.tail .head))) Try.isAgg39 Try.sizeOf39 rfl (Nat.zero_add _).symm rfl rfl ?_
  refine cl rfl rfl rfl (m_at (i := 0) hT) rfl (fun v H1 L1 hle hR => ?_)
  obtain ⟨rfl, rfl, c9, rfl, g9⟩ := hR
  refine fc C39_1 rfl rfl rfl ?_
  refine cbS Try.underlying22 Try.underlying5 Try.underlying9 rfl g9.s rfl rfl ?_
  refine fa0 F191_0 rfl rfl ?_
  refine st Try.sizeOf9 rfl rfl rfl rfl .head ?_
  refine nl ?_
  refine sq ?_
  refine sr ?_
  refine la (Says.own (.tail (.tail .head))) Try.isAgg39 Try.sizeOf39 rfl (Nat.zero_add _).symm rfl rfl ?_
  refine cl rfl rfl rfl (m_at (i := 1) hT) rfl (fun v H1 L1 hle hR => ?_)
  obtain ⟨rfl, rfl, c14, rfl, g14⟩ := hR
  refine fc C39_2 rfl rfl rfl ?_
  refine nt rfl rfl ?_
  refine nl ?_
  refine cutT (fun l' H' L' => ∃ (a1 : Option Addr), ∃ (n1 : Nat), ∃ (c1 : Nat), [(1, .pointer (some ⟨b_1, 0, none⟩)), (2, .pointer (some ⟨b_2, 0, none⟩)), (3, .pointer (some ⟨b_3, 0, none⟩))] = l' ∧ [(b_3, .cells [.string ⟨(T.at 0).s.toArray⟩, .slice a1 n1 c1, .map none].toArray 191 (0, 0))] :: [(b_2, .cells [.string ⟨#[]⟩, .slice none 0 0, .map none].toArray 191 (0, 0))] :: [(b_1, .cells (c.cells T).toArray 39 (0, 0))] :: L = L' ∧ n1 = (lT (T.at 1)).length ∧ ListAt H' (T.at 1) 5 At_DescribeLogDirsResponseDirTopicPartition a1 c1) ?_ (fun l' H' L' le_6 hI => ?_)
  · skip
    refine cb rfl (fun h16 => ?_) (fun h16 => ?_)
    · skip
      have hnu : (T.at 1).nul = false := by simpa using h16
      have hlt : lT (T.at 1) = (T.at 1).l := lT_not hnu
      have hfl := (hf.at 1).len
      refine sr ?_
      refine la (Says.own (.tail (.tail .head))) Try.isAgg39 Try.sizeOf39 rfl (Nat.zero_add _).symm rfl rfl ?_
      refine cl rfl rfl rfl (m_at (i := 1) hT) rfl (fun v H1 L1 hle hR => ?_)
      obtain ⟨rfl, rfl, c18, rfl, g18⟩ := hR
      refine fc C39_3 rfl rfl rfl ?_
      refine ls Try.runUnderlying36 rfl rfl ?_
      refine mks (m := 0) (c := (T.at 1).l.length) (zs := [.int .i32 0, .int .i64 0, .int .i64 0, .bool false, .map none]) Try.underlying189 I194 rfl rfl rfl rfl rfl (by omega) (by omega) (by unfold maxLen; omega) rfl (fun bm21 N21 r21 => ?_)
      refine fa0 F191_1 rfl rfl ?_
      refine st Try.sizeOf189 rfl rfl rfl rfl (.tail .head) ?_
      refine nl ?_
      refine sr ?_
      refine la (Says.own (.tail (.tail (.tail .head)))) Try.isAgg39 Try.sizeOf39 rfl (Nat.zero_add _).symm rfl rfl ?_
      refine cl rfl rfl rfl (m_at (i := 1) hT) rfl (fun v H1 L1 hle hR => ?_)
      obtain ⟨rfl, rfl, c24, rfl, g24⟩ := hR
      refine fc C39_3 rfl rfl rfl ?_
      refine ls Try.runUnderlying36 rfl rfl ?_
      refine mv rfl rfl ?_
      refine nl ?_
      refine fr ((T.at 1).l.length) (fun k l' H' L' => ∃ (a : Option Addr), ∃ (m : Nat), ∃ (c_ : Nat), ∃ (es : List (KE 5)), ∃ (N : Chunk), [(1, .pointer (some ⟨b_1, 0, none⟩)), (2, .pointer (some ⟨b_2, 0, none⟩)), (3, .pointer (some ⟨b_3, 0, none⟩)), (25, .slice c24.la (T.at 1).l.length c24.lc), (26, .int .i64 ((T.at 1).l.length : Int))] = l' ∧ N :: [(b_3, .cells [.string ⟨(T.at 0).s.toArray⟩, .slice a m c_, .map none].toArray 191 (0, 0))] :: [(b_2, .cells [.string ⟨#[]⟩, .slice none 0 0, .map none].toArray 191 (0, 0))] :: [(b_1, .cells (c.cells T).toArray 39 (0, 0))] :: L = L' ∧ Row 194 5 a m c_ (es.flatMap fk) N ∧ m = es.length ∧ (∀ p : KE 5, p ∈ es → At_DescribeLogDirsResponseDirTopicPartition H' p.2 (fk p)) ∧ es.map (·.2) = ((T.at 1).l.take k).map id ∧ a.isNone = false) [(1, .pointer (some ⟨b_1, 0, none⟩)), (2, .pointer (some ⟨b_2, 0, none⟩)), (3, .pointer (some ⟨b_3, 0, none⟩)), (25, .slice c24.la (T.at 1).l.length c24.lc), (26, .int .i64 ((T.at 1).l.length : Int))] (fun k l' H' L' h => ?_) (by omega) rfl (.cons rfl (.cons rfl (.cons rfl (.cons rfl (.cons rfl (.nil _)))))) ⟨some ⟨bm21, 0, none⟩, 0, _, [], N21, rfl, rfl, r21, rfl, (fun p hp => by cases hp), (by simp), rfl⟩ rfl rfl rfl rfl rfl (fun k l' H' L' hk le_9 hI => ?_) (fun l' H' L' le_10 hI => ?_)
      · obtain ⟨a, m, c_, es, N, rfl, _⟩ := h; exact ⟨rfl, rfl, rfl, rfl⟩
      · skip
        obtain ⟨a, m, c_, es, N, rfl, rfl, pk0, pk1, pk2, pk3, pk4⟩ := hI
        refine sr ?_
        obtain ⟨b_11, o_12, e_13, g_14⟩ := (g24.l.mono le_9).at_ (ne_nil_of_lt hk)
        obtain ⟨c_15, q_16, q_17⟩ := g_14 k hk
        refine ix2 Try.runUnderlying36 Try.sizeOf39 rfl e_13 rfl rfl hk rfl ?_
        refine la (Says.fz q_16) Try.isAgg39 Try.sizeOf39 rfl (Nat.add_zero _).symm rfl rfl ?_
        refine al Try.zeroValue39 rfl rfl (fun b_18 => ?_)
        refine sa Try.sizeOf39 rfl rfl rfl rfl rfl .head ?_
        refine nl ?_
        refine rgD 7 (.keep (.skip (.keep (.keep (.keep .nil))))) mixed ?_
        refine dT 0 rfl rfl rfl (by kernel_rfl) (fun _ _ _ h => h) (y_fa0 F191_1 rfl) (.keep (.skip (.keep (.keep (.keep .nil))))) (Fz.le.refl _) ?_
        refine dT 1 rfl rfl rfl (by kernel_rfl) (fun _ _ _ h => h) (y_ld (Says.own (.tail .head)) Try.isAgg189 rfl (Nat.zero_add _).symm rfl) (.keep (.skip (.keep (.keep (.keep .nil))))) (Fz.le.refl _) ?_
        refine dT 2 rfl rfl rfl (by kernel_rfl) (fun _ _ _ h => h) (y_la (Says.own .head) Try.isAgg39 Try.sizeOf39 rfl (Nat.zero_add _).symm rfl) (.keep (.skip (.keep (.keep (.keep .nil))))) (Fz.le.refl _) ?_
        refine dE 3 (by kernel_rfl) rfl ?_
        refine cl rfl rfl rfl (make_DescribeLogDirsResponseDirTopicPartition q_17 ((hf.at 1).el (List.getElem_mem hk))) rfl (fun v H1 L1 le_19 hR => ?_)
        obtain ⟨rfl, cs34, rfl, g34⟩ := hR
        have ho34 := At_DescribeLogDirsResponseDirTopicPartition.ok g34
        have gg34 := g34
        obtain ⟨mte, rfl, he0⟩ := g34
        refine dN (.keep (.skip (.keep (.keep (.keep .nil))))) le_19 ?_
        refine dE 4 (by kernel_rfl) rfl ?_
        refine bs' L189 rfl rfl rfl rfl (fun b_20 => ?_)
        refine dN (.skip (.keep (.skip (.keep (.keep (.keep .nil)))))) le_19 ?_
        refine dE 5 (by kernel_rfl) rfl ?_
        have hmk : m = k := by have h1 := congrArg List.length pk3; rw [List.length_map, List.length_map, List.length_take] at h1; omega
        refine ap (news := fk ((⟨_, ho34⟩, (T.at 1).l[k]) : KE 5)) Try.underlying189 I194 rfl rfl pk0 (fun _ => (.tail (.tail .head))) (src_says Try.underlying189 rfl (fun _ => Says.own .head) (fk_one _)) (by omega) (by unfold maxLen; omega) rfl (fun a36 c36 N36 r36 z36 => ?_)
        rw [flatMap_snoc'] at r36
        have hin : a36.isNone = false := by cases a36 with | none => have := z36.1 rfl; omega | some _ => rfl
        refine dN (.skip (.keep (.skip (.keep (.keep (.keep .nil)))))) le_19 ?_
        refine dT 6 rfl rfl rfl (by kernel_rfl) (fun _ _ _ h => h) (y_fa0 F191_1 rfl) (.skip (.keep (.skip (.keep (.keep (.keep .nil)))))) le_19 ?_
        refine dE 7 (by kernel_rfl) rfl ?_
        refine st Try.sizeOf189 rfl rfl rfl rfl (.tail (.tail (.tail .head))) ?_
        refine dNk (by kernel_rfl) ?_
        refine dD (by kernel_rfl) ?_
        refine Nb ?_
        refine drN .head ?_
        refine drN .head ?_
        refine fun a_ w_ hA hw => ⟨_, _, _, hA.sub ?_, (le_9.trans le_19), hw, _, rfl, a36, _, c36, (es ++ [((⟨_, ho34⟩, (T.at 1).l[k]) : KE 5)]), N36, rfl, rfl, r36, (by simp; omega), (fun p hp => (mem_snoc hp).elim (fun h => At_DescribeLogDirsResponseDirTopicPartition.mono _ _ _ _ le_19 (pk2 p h)) (fun h => h ▸ At_DescribeLogDirsResponseDirTopicPartition.mono _ _ _ _ (Fz.le.refl _) gg34)), (map_take_snoc hk pk3), hin⟩
        exact (.cons rfl (.cons rfl (.cons rfl (.cons rfl (.cons rfl (.cons rfl (.nil _)))))))
      · skip
        obtain ⟨a, m, c_, es, N, rfl, rfl, pk0, pk1, pk2, pk3, pk4⟩ := hI
        refine toNn ?_
        have hm : m = (T.at 1).l.length := by have h1 := congrArg List.length pk3; rw [List.length_map, List.length_map, List.take_length] at h1; omega
        have hfe : es.map (·.2) = (T.at 1).l := by rw [pk3, List.take_length, List.map_id]
        refine frN pk0 .head (fun H2 hle2 hfz => ?_)
        have hrw := RowsAt.row (R := At_DescribeLogDirsResponseDirTopicPartition) hfz pk1 pk0.le.1 (fun p hp => At_DescribeLogDirsResponseDirTopicPartition.mono _ _ _ _ hle2 (pk2 p hp))
        rw [hfe, ← hlt] at hrw
        have hnl : m = (lT (T.at 1)).length := by rw [hlt]; exact hm
        have hla : ListAt H2 (T.at 1) 5 At_DescribeLogDirsResponseDirTopicPartition a c_ := ⟨hrw, by rw [pk4, hnu]⟩
        refine fun a_ w_ hA hw => ⟨_, _, _, hA.sub ?_, (le_10.trans hle2), hw, a, m, c_, rfl, rfl, hnl, hla⟩
        exact (.cons rfl (.cons rfl (.cons rfl (.nil _))))
    · skip
      have hnu : (T.at 1).nul = true := by simpa using h16
      refine skN ?_
      refine fun a_ w_ hA hw => ⟨_, _, _, hA.sub ?_, (Fz.le.refl _), hw, none, 0, 0, rfl, rfl, (by rw [lT_nul hnu]; rfl), (ListAt.none hnu)⟩
      exact (.cons rfl (.cons rfl (.cons rfl (.nil _))))
  · skip
    obtain ⟨a1, n1, c1, rfl, rfl, pj0, pj1⟩ := hI
    subst pj0
    have hf1 := pj1
    refine sq ?_
    refine sr ?_
    refine fa0 F39_4 rfl rfl ?_
    refine ld (Says.own (.tail (.tail .head))) Try.isAgg37 rfl (Nat.zero_add _).symm rfl rfl ?_
    refine ls Try.runUnderlying37 rfl rfl ?_
    refine mv rfl rfl ?_
    refine nl ?_
    refine nulC2 ?_
    have hun := hf.un
    refine fr (T.u.length) (fun q l' H' L' => ∃ (m : Option Nat), ∃ (kvs : List KV), ∃ (M : Chunk), [(2, .pointer (some ⟨b_2, 0, none⟩)), (3, .pointer (some ⟨b_3, 0, none⟩)), (40, .slice c.ua T.u.length c.uc), (41, .int .i64 (T.u.length : Int))] = l' ∧ M :: [(b_3, .cells [.string ⟨(T.at 0).s.toArray⟩, .slice a1 (lT (T.at 1)).length c1, .map m].toArray 191 (0, 0))] :: [(b_2, .cells [.string ⟨#[]⟩, .slice none 0 0, .map none].toArray 191 (0, 0))] :: [(b_1, .cells (c.cells T).toArray 39 (0, 0))] :: L = L' ∧ MapC m kvs M ∧ KvTo H' (T.u.take q) kvs) [(2, .pointer (some ⟨b_2, 0, none⟩)), (3, .pointer (some ⟨b_3, 0, none⟩)), (40, .slice c.ua T.u.length c.uc), (41, .int .i64 (T.u.length : Int))] (fun q l' H' L' h => ?_) (by omega) rfl (.cons rfl (.cons rfl (.cons rfl (.cons rfl (.nil _))))) ⟨none, [], [], rfl, rfl, MapC.nil, (KvTo.nil _)⟩ rfl rfl rfl rfl rfl (fun q l' H' L' hq le_21 hI => ?_) (fun l' H' L' le_22 hI => ?_)
    · obtain ⟨m, kvs, M, rfl, _⟩ := h; exact ⟨rfl, rfl, rfl, rfl⟩
    · skip
      obtain ⟨m, kvs, M, rfl, rfl, pq0, pq1⟩ := hI
      refine sr ?_
      obtain ⟨b_23, o_24, e_25, g_26⟩ := (hT.u.mono (le_6.trans le_21)).at_ (ne_nil_of_lt hq)
      obtain ⟨c_27, q_28, q_29⟩ := g_26 q hq
      refine ix2 Try.runUnderlying37 Try.sizeOf63 rfl e_25 rfl rfl hq rfl ?_
      refine la (Says.fz q_28) Try.isAgg63 Try.sizeOf63 rfl (Nat.add_zero _).symm rfl rfl ?_
      refine al Try.zeroValue63 rfl rfl (fun b_30 => ?_)
      refine sa Try.sizeOf63 rfl rfl rfl rfl rfl .head ?_
      refine nl ?_
      refine rg ?_
      refine fa0 F191_2 rfl rfl ?_
      refine fa0 F63_0 rfl rfl ?_
      refine ld (Says.own .head) Try.isAgg60 rfl (Nat.zero_add _).symm rfl rfl ?_
      refine fa0 F63_1 rfl rfl ?_
      refine ld (Says.own .head) Try.isAgg22 rfl (Nat.zero_add _).symm rfl rfl ?_
      refine tf (.tail (.tail .head)) ?_
      refine tf (.tail (.tail .head)) ?_
      refine cl rfl rfl rfl (t_set (cs := [.string ⟨(T.at 0).s.toArray⟩, .slice a1 (lT (T.at 1)).length c1, .map m]) (off := 2) pq0 rfl) rfl (fun v H1 L1 hle hR => ?_)
      obtain ⟨rfl, g51, cs51, hs51, rfl⟩ := hR
      obtain rfl : [.string ⟨(T.at 0).s.toArray⟩, .slice a1 (lT (T.at 1)).length c1, .map (some g51)] = cs51 := Option.some.inj hs51
      refine nN ?_
      refine Nb ?_
      refine drN (.tail (.tail .head)) ?_
      refine fun a_ w_ hA hw => ⟨_, _, _, hA.sub ?_, le_21, hw, _, rfl, _, _, [(g51, _)], rfl, rfl, (.inr ⟨g51, rfl, rfl⟩), (KvTo.put hf.u (List.getElem?_eq_getElem hq) pq1 (⟨⟨_, _, rfl, q_29.val⟩, q_29.lo, q_29.hi⟩))⟩
      exact (.cons rfl (.cons rfl (.cons rfl (.cons rfl (.cons rfl (.nil _))))))
    · skip
      obtain ⟨m, kvs, M, rfl, rfl, pq0, pq1⟩ := hI
      refine toWp ?_
      rw [List.take_length] at pq1
      refine frMW pq0 .head (fun H3 hle3 hmf => ?_)
      have hft := KvTo.at_ hf.u (pq1.mono hle3) hmf
      refine sr ?_
      refine la (Says.own .head) Try.isAgg191 Try.sizeOf191 rfl (Nat.zero_add _).symm rfl rfl ?_
      refine sa Try.sizeOf191 rfl rfl rfl rfl rfl (.tail .head) ?_
      refine nl ?_
      refine drW .head ?_
      refine drW (.tail .head) ?_
      exact rC rfl Try.isAgg191 Try.sizeOf191 rfl .head rfl (le_6.trans (le_22.trans hle3)) (fun _ _ h => h) ⟨rfl, _, rfl, ⟨a1, c1, m, rfl, (hf1.mono At_DescribeLogDirsResponseDirTopicPartition.mono (le_22.trans hle3)), hft⟩⟩
theorem make_DescribeLogDirsResponseDir {H : Fz} {L : Own} {c : TC} {T : Tr} (hT : TreeAt H c T) (hf : Fine T) :
    Fn Try.prog 167 [.agg (c.cells T).toArray] H L (fun v H' L' => L = L' ∧ ∃ cs : List Value, v = .agg cs.toArray ∧ At_DescribeLogDirsResponseDir H' T cs) := by
  refine Fn.mk Try.call167 Try.func167 rfl Try.ntmps167 rfl ?_
  refine sr ?_
  refine bx rfl rfl rfl (fun b_1 => ?_)
  refine al Try.zeroValue185 rfl rfl (fun b_2 => ?_)
  refine nl ?_
  refine sr ?_
  refine al Try.zeroValue185 rfl rfl (fun b_3 => ?_)
  refine nl ?_
  refine sr ?_
  refine la (Says.own (.tail (.tail .head))) Try.isAgg39 Try.sizeOf39 rfl (Nat.zero_add _).symm rfl rfl ?_
  refine cl rfl rfl rfl (m_at (i := 0) hT) rfl (fun v H1 L1 hle hR => ?_)
  obtain ⟨rfl, rfl, c9, rfl, g9⟩ := hR
  refine fc C39_0 rfl rfl rfl ?_
  refine cv Try.runUnderlying2 Try.runUnderlying45 rfl rfl rfl ?_
  refine fa0 F185_0 rfl rfl ?_
  refine st Try.sizeOf45 rfl rfl rfl rfl .head ?_
  refine nl ?_
  refine sr ?_
  refine la (Says.own (.tail (.tail .head))) Try.isAgg39 Try.sizeOf39 rfl (Nat.zero_add _).symm rfl rfl ?_
  refine cl rfl rfl rfl (m_at (i := 1) hT) rfl (fun v H1 L1 hle hR => ?_)
  obtain ⟨rfl, rfl, c14, rfl, g14⟩ := hR
  refine fc C39_1 rfl rfl rfl ?_
  refine cbS Try.underlying22 Try.underlying5 Try.underlying9 rfl g14.s rfl rfl ?_
  refine fa0 F185_1 rfl rfl ?_
  refine st Try.sizeOf9 rfl rfl rfl rfl .head ?_
  refine nl ?_
  refine sq ?_
  refine sr ?_
  refine la (Says.own (.tail (.tail .head))) Try.isAgg39 Try.sizeOf39 rfl (Nat.zero_add _).symm rfl rfl ?_
  refine cl rfl rfl rfl (m_at (i := 2) hT) rfl (fun v H1 L1 hle hR => ?_)
  obtain ⟨rfl, rfl, c19, rfl, g19⟩ := hR
  refine fc C39_2 rfl rfl rfl ?_
  refine nt rfl rfl ?_
  refine nl ?_
  refine cutT (fun l' H' L' => ∃ (a2 : Option Addr), ∃ (n2 : Nat), ∃ (c2 : Nat), [(1, .pointer (some ⟨b_1, 0, none⟩)), (2, .pointer (some ⟨b_2, 0, none⟩)), (3, .pointer (some ⟨b_3, 0, none⟩))] = l' ∧ [(b_3, .cells [.int .i16 (IntKind.i16.wrap (T.at 0).n), .string ⟨(T.at 1).s.toArray⟩, .slice a2 n2 c2, .int .i64 0, .int .i64 0, .bool false, .map none].toArray 185 (0, 0))] :: [(b_2, .cells [.int .i16 0, .string ⟨#[]⟩, .slice none 0 0, .int .i64 0, .int .i64 0, .bool false, .map none].toArray 185 (0, 0))] :: [(b_1, .cells (c.cells T).toArray 39 (0, 0))] :: L = L' ∧ n2 = (lT (T.at 2)).length ∧ ListAt H' (T.at 2) 3 At_DescribeLogDirsResponseDirTopic a2 c2) ?_ (fun l' H' L' le_7 hI => ?_)
  · skip
    refine cb rfl (fun h21 => ?_) (fun h21 => ?_)
    · skip
      have hnu : (T.at 2).nul = false := by simpa using h21
      have hlt : lT (T.at 2) = (T.at 2).l := lT_not hnu
      have hfl := (hf.at 2).len
      refine sr ?_
      refine la (Says.own (.tail (.tail .head))) Try.isAgg39 Try.sizeOf39 rfl (Nat.zero_add _).symm rfl rfl ?_
      refine cl rfl rfl rfl (m_at (i := 2) hT) rfl (fun v H1 L1 hle hR => ?_)
      obtain ⟨rfl, rfl, c23, rfl, g23⟩ := hR
      refine fc C39_3 rfl rfl rfl ?_
      refine ls Try.runUnderlying36 rfl rfl ?_
      refine mks (m := 0) (c := (T.at 2).l.length) (zs := [.string ⟨#[]⟩, .slice none 0 0, .map none]) Try.underlying183 I191 rfl rfl rfl rfl rfl (by omega) (by omega) (by unfold maxLen; omega) rfl (fun bm26 N26 r26 => ?_)
      refine fa0 F185_2 rfl rfl ?_
      refine st Try.sizeOf183 rfl rfl rfl rfl (.tail .head) ?_
      refine nl ?_
      refine sr ?_
      refine la (Says.own (.tail (.tail (.tail .head)))) Try.isAgg39 Try.sizeOf39 rfl (Nat.zero_add _).symm rfl rfl ?_
      refine cl rfl rfl rfl (m_at (i := 2) hT) rfl (fun v H1 L1 hle hR => ?_)
      obtain ⟨rfl, rfl, c29, rfl, g29⟩ := hR
      refine fc C39_3 rfl rfl rfl ?_
      refine ls Try.runUnderlying36 rfl rfl ?_
      refine mv rfl rfl ?_
      refine nl ?_
      refine fr ((T.at 2).l.length) (fun k l' H' L' => ∃ (a : Option Addr), ∃ (m : Nat), ∃ (c_ : Nat), ∃ (es : List (KE 3)), ∃ (N : Chunk), [(1, .pointer (some ⟨b_1, 0, none⟩)), (2, .pointer (some ⟨b_2, 0, none⟩)), (3, .pointer (some ⟨b_3, 0, none⟩)), (30, .slice c29.la (T.at 2).l.length c29.lc), (31, .int .i64 ((T.at 2).l.length : Int))] = l' ∧ N :: [(b_3, .cells [.int .i16 (IntKind.i16.wrap (T.at 0).n), .string ⟨(T.at 1).s.toArray⟩, .slice a m c_, .int .i64 0, .int .i64 0, .bool false, .map none].toArray 185 (0, 0))] :: [(b_2, .cells [.int .i16 0, .string ⟨#[]⟩, .slice none 0 0, .int .i64 0, .int .i64 0, .bool false, .map none].toArray 185 (0, 0))] :: [(b_1, .cells (c.cells T).toArray 39 (0, 0))] :: L = L' ∧ Row 191 3 a m c_ (es.flatMap fk) N ∧ m = es.length ∧ (∀ p : KE 3, p ∈ es → At_DescribeLogDirsResponseDirTopic H' p.2 (fk p)) ∧ es.map (·.2) = ((T.at 2).l.take k).map id ∧ a.isNone = false) [(1, .pointer (some ⟨b_1, 0, none⟩)), (2, .pointer (some ⟨b_2, 0, none⟩)), (3, .pointer (some ⟨b_3, 0, none⟩)), (30, .slice c29.la (T.at 2).l.length c29.lc), (31, .int .i64 ((T.at 2).l.length : Int))] (fun k l' H' L' h => ?_) (by omega) rfl (.cons rfl (.cons rfl (.cons rfl (.cons rfl (.cons rfl (.nil _)))))) ⟨some ⟨bm26, 0, none⟩, 0, _, [], N26, rfl, rfl, r26, rfl, (fun p hp => by cases hp), (by simp), rfl⟩ rfl rfl rfl rfl rfl (fun k l' H' L' hk le_10 hI => ?_) (fun l' H' L' le_11 hI => ?_)
      · obtain ⟨a, m, c_, es, N, rfl, _⟩ := h; exact ⟨rfl, rfl, rfl, rfl⟩
      · skip
        obtain ⟨a, m, c_, es, N, rfl, rfl, pk0, pk1, pk2, pk3, pk4⟩ := hI
        refine sr ?_
        obtain ⟨b_12, o_13, e_14, g_15⟩ := (g29.l.mono le_10).at_ (ne_nil_of_lt hk)
        obtain ⟨c_16, q_17, q_18⟩ := g_15 k hk
        refine ix2 Try.runUnderlying36 Try.sizeOf39 rfl e_14 rfl rfl hk rfl ?_
        refine la (Says.fz q_17) Try.isAgg39 Try.sizeOf39 rfl (Nat.add_zero _).symm rfl rfl ?_
        refine al Try.zeroValue39 rfl rfl (fun b_19 => ?_)
        refine sa Try.sizeOf39 rfl rfl rfl rfl rfl .head ?_
        refine nl ?_
        refine rgD 7 (.keep (.skip (.keep (.keep (.keep .nil))))) mixed ?_
        refine dT 0 rfl rfl rfl (by kernel_rfl) (fun _ _ _ h => h) (y_fa0 F185_2 rfl) (.keep (.skip (.keep (.keep (.keep .nil))))) (Fz.le.refl _) ?_
        refine dT 1 rfl rfl rfl (by kernel_rfl) (fun _ _ _ h => h) (y_ld (Says.own (.tail .head)) Try.isAgg183 rfl (Nat.zero_add _).symm rfl) (.keep (.skip (.keep (.keep (.keep .nil))))) (Fz.le.refl _) ?_
        refine dT 2 rfl rfl rfl (by kernel_rfl) (fun _ _ _ h => h) (y_la (Says.own .head) Try.isAgg39 Try.sizeOf39 rfl (Nat.zero_add _).symm rfl) (.keep (.skip (.keep (.keep (.keep .nil))))) (Fz.le.refl _) ?_
        refine dE 3 (by kernel_rfl) rfl ?_
        refine cl rfl rfl rfl (make_DescribeLogDirsResponseDirTopic q_18 ((hf.at 2).el (List.getElem_mem hk))) rfl (fun v H1 L1 le_20 hR => ?_)
        obtain ⟨rfl, cs39, rfl, g39⟩ := hR
        have ho39 := At_DescribeLogDirsResponseDirTopic.ok g39
        have gg39 := g39
        obtain ⟨a1e, c1e, mte, rfl, he0, he1⟩ := g39
        refine dN (.keep (.skip (.keep (.keep (.keep .nil))))) le_20 ?_
        refine dE 4 (by kernel_rfl) rfl ?_
        refine bs' L183 rfl rfl rfl rfl (fun b_21 => ?_)
        refine dN (.skip (.keep (.skip (.keep (.keep (.keep .nil)))))) le_20 ?_
        refine dE 5 (by kernel_rfl) rfl ?_
        have hmk : m = k := by have h1 := congrArg List.length pk3; rw [List.length_map, List.length_map, List.length_take] at h1; omega
        refine ap (news := fk ((⟨_, ho39⟩, (T.at 2).l[k]) : KE 3)) Try.underlying183 I191 rfl rfl pk0 (fun _ => (.tail (.tail .head))) (src_says Try.underlying183 rfl (fun _ => Says.own .head) (fk_one _)) (by omega) (by unfold maxLen; omega) rfl (fun a41 c41 N41 r41 z41 => ?_)
        rw [flatMap_snoc'] at r41
        have hin : a41.isNone = false := by cases a41 with | none => have := z41.1 rfl; omega | some _ => rfl
        refine dN (.skip (.keep (.skip (.keep (.keep (.keep .nil)))))) le_20 ?_
        refine dT 6 rfl rfl rfl (by kernel_rfl) (fun _ _ _ h => h) (y_fa0 F185_2 rfl) (.skip (.keep (.skip (.keep (.keep (.keep .nil)))))) le_20 ?_
        refine dE 7 (by kernel_rfl) rfl ?_
        refine st Try.sizeOf183 rfl rfl rfl rfl (.tail (.tail (.tail .head))) ?_
        refine dNk (by kernel_rfl) ?_
        refine dD (by kernel_rfl) ?_
        refine Nb ?_
        refine drN .head ?_
        refine drN .head ?_
        refine fun a_ w_ hA hw => ⟨_, _, _, hA.sub ?_, (le_10.trans le_20), hw, _, rfl, a41, _, c41, (es ++ [((⟨_, ho39⟩, (T.at 2).l[k]) : KE 3)]), N41, rfl, rfl, r41, (by simp; omega), (fun p hp => (mem_snoc hp).elim (fun h => At_DescribeLogDirsResponseDirTopic.mono _ _ _ _ le_20 (pk2 p h)) (fun h => h ▸ At_DescribeLogDirsResponseDirTopic.mono _ _ _ _ (Fz.le.refl _) gg39)), (map_take_snoc hk pk3), hin⟩
        exact (.cons rfl (.cons rfl (.cons rfl (.cons rfl (.cons rfl (.cons rfl (.nil _)))))))
      · skip
        obtain ⟨a, m, c_, es, N, rfl, rfl, pk0, pk1, pk2, pk3, pk4⟩ := hI
        refine toNn ?_
        have hm : m = (T.at 2).l.length := by have h1 := congrArg List.length pk3; rw [List.length_map, List.length_map, List.take_length] at h1; omega
        have hfe : es.map (·.2) = (T.at 2).l := by rw [pk3, List.take_length, List.map_id]
        refine frN pk0 .head (fun H2 hle2 hfz => ?_)
        have hrw := RowsAt.row (R := At_DescribeLogDirsResponseDirTopic) hfz pk1 pk0.le.1 (fun p hp => At_DescribeLogDirsResponseDirTopic.mono _ _ _ _ hle2 (pk2 p hp))
        rw [hfe, ← hlt] at hrw
        have hnl : m = (lT (T.at 2)).length := by rw [hlt]; exact hm
        have hla : ListAt H2 (T.at 2) 3 At_DescribeLogDirsResponseDirTopic a c_ := ⟨hrw, by rw [pk4, hnu]⟩
        refine fun a_ w_ hA hw => ⟨_, _, _, hA.sub ?_, (le_11.trans hle2), hw, a, m, c_, rfl, rfl, hnl, hla⟩
        exact (.cons rfl (.cons rfl (.cons rfl (.nil _))))
    · skip
      have hnu : (T.at 2).nul = true := by simpa using h21
      refine skN ?_
      refine fun a_ w_ hA hw => ⟨_, _, _, hA.sub ?_, (Fz.le.refl _), hw, none, 0, 0, rfl, rfl, (by rw [lT_nul hnu]; rfl), (ListAt.none hnu)⟩
      exact (.cons rfl (.cons rfl (.cons rfl (.nil _))))
  · skip
    obtain ⟨a2, n2, c2, rfl, rfl, pj0, pj1⟩ := hI
    subst pj0
    have hf2 := pj1
    refine sr ?_
    refine la (Says.own (.tail (.tail .head))) Try.isAgg39 Try.sizeOf39 rfl (Nat.zero_add _).symm rfl rfl ?_
    refine cl rfl rfl rfl (m_at (i := 3) (hT.mono le_7)) rfl (fun v H1 L1 hle hR => ?_)
    obtain ⟨rfl, rfl, c45, rfl, g45⟩ := hR
    refine fc C39_0 rfl rfl rfl ?_
    refine fa0 F185_3 rfl rfl ?_
    refine st Try.sizeOf2 rfl rfl rfl rfl .head ?_
    refine nl ?_
    refine sr ?_
    refine la (Says.own (.tail (.tail .head))) Try.isAgg39 Try.sizeOf39 rfl (Nat.zero_add _).symm rfl rfl ?_
    refine cl rfl rfl rfl (m_at (i := 4) (hT.mono le_7)) rfl (fun v H1 L1 hle hR => ?_)
    obtain ⟨rfl, rfl, c49, rfl, g49⟩ := hR
    refine fc C39_0 rfl rfl rfl ?_
    refine fa0 F185_4 rfl rfl ?_
    refine st Try.sizeOf2 rfl rfl rfl rfl .head ?_
    refine nl ?_
    refine sr ?_
    refine la (Says.own (.tail (.tail .head))) Try.isAgg39 Try.sizeOf39 rfl (Nat.zero_add _).symm rfl rfl ?_
    refine cl rfl rfl rfl (m_at (i := 5) (hT.mono le_7)) rfl (fun v H1 L1 hle hR => ?_)
    obtain ⟨rfl, rfl, c53, rfl, g53⟩ := hR
    refine fc C39_0 rfl rfl rfl ?_
    refine an rfl rfl (and1_i64 _) rfl ?_
    refine eq' rfl rfl rfl ?_
    refine fa0 F185_5 rfl rfl ?_
    refine st Try.sizeOf4 rfl rfl rfl rfl .head ?_
    refine nl ?_
    refine sq ?_
    refine sr ?_
    refine fa0 F39_4 rfl rfl ?_
    refine ld (Says.own (.tail (.tail .head))) Try.isAgg37 rfl (Nat.zero_add _).symm rfl rfl ?_
    refine ls Try.runUnderlying37 rfl rfl ?_
    refine mv rfl rfl ?_
    refine nl ?_
    refine nulC2 ?_
    have hun := hf.un
    refine fr (T.u.length) (fun q l' H' L' => ∃ (m : Option Nat), ∃ (kvs : List KV), ∃ (M : Chunk), [(2, .pointer (some ⟨b_2, 0, none⟩)), (3, .pointer (some ⟨b_3, 0, none⟩)), (59, .slice c.ua T.u.length c.uc), (60, .int .i64 (T.u.length : Int))] = l' ∧ M :: [(b_3, .cells [.int .i16 (IntKind.i16.wrap (T.at 0).n), .string ⟨(T.at 1).s.toArray⟩, .slice a2 (lT (T.at 2)).length c2, .int .i64 (T.at 3).n, .int .i64 (T.at 4).n, .bool (decide ((T.at 5).n % 2 = 1)), .map m].toArray 185 (0, 0))] :: [(b_2, .cells [.int .i16 0, .string ⟨#[]⟩, .slice none 0 0, .int .i64 0, .int .i64 0, .bool false, .map none].toArray 185 (0, 0))] :: [(b_1, .cells (c.cells T).toArray 39 (0, 0))] :: L = L' ∧ MapC m kvs M ∧ KvTo H' (T.u.take q) kvs) [(2, .pointer (some ⟨b_2, 0, none⟩)), (3, .pointer (some ⟨b_3, 0, none⟩)), (59, .slice c.ua T.u.length c.uc), (60, .int .i64 (T.u.length : Int))] (fun q l' H' L' h => ?_) (by omega) rfl (.cons rfl (.cons rfl (.cons rfl (.cons rfl (.nil _))))) ⟨none, [], [], rfl, rfl, MapC.nil, (KvTo.nil _)⟩ rfl rfl rfl rfl rfl (fun q l' H' L' hq le_25 hI => ?_) (fun l' H' L' le_26 hI => ?_)
    · obtain ⟨m, kvs, M, rfl, _⟩ := h; exact ⟨rfl, rfl, rfl, rfl⟩
    · skip
      obtain ⟨m, kvs, M, rfl, rfl, pq0, pq1⟩ := hI
      refine sr ?_
      obtain ⟨b_27, o_28, e_29, g_30⟩ := (hT.u.mono (le_7.trans le_25)).at_ (ne_nil_of_lt hq)
      obtain ⟨c_31, q_32, q_33⟩ := g_30 q hq
      refine ix2 Try.runUnderlying37 Try.sizeOf63 rfl e_29 rfl rfl hq rfl ?_
      refine la (Says.fz q_32) Try.isAgg63 Try.sizeOf63 rfl (Nat.add_zero _).symm rfl rfl ?_
      refine al Try.zeroValue63 rfl rfl (fun b_34 => ?_)
      refine sa Try.sizeOf63 rfl rfl rfl rfl rfl .head ?_
      refine nl ?_
      refine rg ?_
      refine fa0 F185_6 rfl rfl ?_
      refine fa0 F63_0 rfl rfl ?_
      refine ld (Says.own .head) Try.isAgg60 rfl (Nat.zero_add _).symm rfl rfl ?_
      refine fa0 F63_1 rfl rfl ?_
      refine ld (Says.own .head) Try.isAgg22 rfl (Nat.zero_add _).symm rfl rfl ?_
      refine tf (.tail (.tail .head)) ?_
      refine tf (.tail (.tail .head)) ?_
      refine cl rfl rfl rfl (t_set (cs := [.int .i16 (IntKind.i16.wrap (T.at 0).n), .string ⟨(T.at 1).s.toArray⟩, .slice a2 (lT (T.at 2)).length c2, .int .i64 (T.at 3).n, .int .i64 (T.at 4).n, .bool (decide ((T.at 5).n % 2 = 1)), .map m]) (off := 6) pq0 rfl) rfl (fun v H1 L1 hle hR => ?_)
      obtain ⟨rfl, g70, cs70, hs70, rfl⟩ := hR
      obtain rfl : [.int .i16 (IntKind.i16.wrap (T.at 0).n), .string ⟨(T.at 1).s.toArray⟩, .slice a2 (lT (T.at 2)).length c2, .int .i64 (T.at 3).n, .int .i64 (T.at 4).n, .bool (decide ((T.at 5).n % 2 = 1)), .map (some g70)] = cs70 := Option.some.inj hs70
      refine nN ?_
      refine Nb ?_
      refine drN (.tail (.tail .head)) ?_
      refine fun a_ w_ hA hw => ⟨_, _, _, hA.sub ?_, le_25, hw, _, rfl, _, _, [(g70, _)], rfl, rfl, (.inr ⟨g70, rfl, rfl⟩), (KvTo.put hf.u (List.getElem?_eq_getElem hq) pq1 (⟨⟨_, _, rfl, q_33.val⟩, q_33.lo, q_33.hi⟩))⟩
      exact (.cons rfl (.cons rfl (.cons rfl (.cons rfl (.cons rfl (.nil _))))))
    · skip
      obtain ⟨m, kvs, M, rfl, rfl, pq0, pq1⟩ := hI
      refine toWp ?_
      rw [List.take_length] at pq1
      refine frMW pq0 .head (fun H3 hle3 hmf => ?_)
      have hft := KvTo.at_ hf.u (pq1.mono hle3) hmf
      refine sr ?_
      refine la (Says.own .head) Try.isAgg185 Try.sizeOf185 rfl (Nat.zero_add _).symm rfl rfl ?_
      refine sa Try.sizeOf185 rfl rfl rfl rfl rfl (.tail .head) ?_
      refine nl ?_
      refine drW .head ?_
      refine drW (.tail .head) ?_
      exact rC rfl Try.isAgg185 Try.sizeOf185 rfl .head rfl (le_7.trans (le_26.trans hle3)) (fun _ _ h => h) ⟨rfl, _, rfl, ⟨a2, c2, m, rfl, (hf2.mono At_DescribeLogDirsResponseDirTopic.mono (le_26.trans hle3)), hft⟩⟩
theorem fill_DescribeLogDirsResponse {H : Fz} {L : Own} {b : Nat} {ver : Int} {c : TC} {T : Tr} (hT : TreeAt H c T) (hf : Fine T) :
    Fn Try.prog 117 [.pointer (some ⟨b, 0, none⟩), .agg (c.cells T).toArray] H ([(b, .cells [.int .i16 ver, .int .i32 0, .int .i16 0, .slice none 0 0, .map none].toArray 125 (0, 0))] :: L) (fun _ H' L' => ∃ cs : List Value, L' = [(b, .cells cs.toArray 125 (0, 0))] :: L ∧ At_DescribeLogDirsResponse ver H' T cs) := by
  refine Fn.mk Try.call117 Try.func117 rfl Try.ntmps117 rfl ?_
  refine sr ?_
  refine bx rfl rfl rfl (fun b_1 => ?_)
  refine nl ?_
  refine sr ?_
  refine mv rfl rfl ?_
  refine la (Says.own .head) Try.isAgg39 Try.sizeOf39 rfl (Nat.zero_add _).symm rfl rfl ?_
  refine cl rfl rfl rfl (m_at (i := 0) hT) rfl (fun v H1 L1 hle hR => ?_)
  obtain ⟨rfl, rfl, c10, rfl, g10⟩ := hR
  refine fc C39_0 rfl rfl rfl ?_
  refine cv Try.runUnderlying2 Try.runUnderlying21 rfl rfl rfl ?_
  refine nc rfl rfl ?_
  refine fa0 F125_1 rfl rfl ?_
  refine st Try.sizeOf21 rfl rfl rfl rfl (.tail .head) ?_
  refine nl ?_
  refine sr ?_
  refine mv rfl rfl ?_
  refine la (Says.own .head) Try.isAgg39 Try.sizeOf39 rfl (Nat.zero_add _).symm rfl rfl ?_
  refine cl rfl rfl rfl (m_at (i := 1) hT) rfl (fun v H1 L1 hle hR => ?_)
  obtain ⟨rfl, rfl, c17, rfl, g17⟩ := hR
  refine fc C39_0 rfl rfl rfl ?_
  refine cv Try.runUnderlying2 Try.runUnderlying45 rfl rfl rfl ?_
  refine nc rfl rfl ?_
  refine fa0 F125_2 rfl rfl ?_
  refine st Try.sizeOf45 rfl rfl rfl rfl (.tail .head) ?_
  refine nl ?_
  refine sq ?_
  refine sr ?_
  refine la (Says.own .head) Try.isAgg39 Try.sizeOf39 rfl (Nat.zero_add _).symm rfl rfl ?_
  refine cl rfl rfl rfl (m_at (i := 2) hT) rfl (fun v H1 L1 hle hR => ?_)
  obtain ⟨rfl, rfl, c23, rfl, g23⟩ := hR
  refine fc C39_2 rfl rfl rfl ?_
  refine nt rfl rfl ?_
  refine nl ?_
  refine cutT (fun l' H' L' => ∃ (a2 : Option Addr), ∃ (n2 : Nat), ∃ (c2 : Nat), [(0, .pointer (some ⟨b, 0, none⟩)), (3, .pointer (some ⟨b_1, 0, none⟩))] = l' ∧ [(b_1, .cells (c.cells T).toArray 39 (0, 0))] :: [(b, .cells [.int .i16 ver, .int .i32 (IntKind.i32.wrap (T.at 0).n), .int .i16 (IntKind.i16.wrap (T.at 1).n), .slice a2 n2 c2, .map none].toArray 125 (0, 0))] :: L = L' ∧ n2 = (lT (T.at 2)).length ∧ ListAt H' (T.at 2) 7 At_DescribeLogDirsResponseDir a2 c2) ?_ (fun l' H' L' le_5 hI => ?_)
  · skip
    refine cb rfl (fun h25 => ?_) (fun h25 => ?_)
    · skip
      have hnu : (T.at 2).nul = false := by simpa using h25
      have hlt : lT (T.at 2) = (T.at 2).l := lT_not hnu
      have hfl := (hf.at 2).len
      refine sr ?_
      refine mv rfl rfl ?_
      refine la (Says.own .head) Try.isAgg39 Try.sizeOf39 rfl (Nat.zero_add _).symm rfl rfl ?_
      refine cl rfl rfl rfl (m_at (i := 2) hT) rfl (fun v H1 L1 hle hR => ?_)
      obtain ⟨rfl, rfl, c28, rfl, g28⟩ := hR
      refine fc C39_3 rfl rfl rfl ?_
      refine ls Try.runUnderlying36 rfl rfl ?_
      refine mks (m := 0) (c := (T.at 2).l.length) (zs := [.int .i16 0, .string ⟨#[]⟩, .slice none 0 0, .int .i64 0, .int .i64 0, .bool false, .map none]) Try.underlying123 I185 rfl rfl rfl rfl rfl (by omega) (by omega) (by unfold maxLen; omega) rfl (fun bm31 N31 r31 => ?_)
      refine nc rfl rfl ?_
      refine fa0 F125_3 rfl rfl ?_
      refine st Try.sizeOf123 rfl rfl rfl rfl (.tail (.tail .head)) ?_
      refine nl ?_
      refine sr ?_
      refine la (Says.own (.tail .head)) Try.isAgg39 Try.sizeOf39 rfl (Nat.zero_add _).symm rfl rfl ?_
      refine cl rfl rfl rfl (m_at (i := 2) hT) rfl (fun v H1 L1 hle hR => ?_)
      obtain ⟨rfl, rfl, c35, rfl, g35⟩ := hR
      refine fc C39_3 rfl rfl rfl ?_
      refine ls Try.runUnderlying36 rfl rfl ?_
      refine mv rfl rfl ?_
      refine nl ?_
      refine fr ((T.at 2).l.length) (fun k l' H' L' => ∃ (a : Option Addr), ∃ (m : Nat), ∃ (c_ : Nat), ∃ (es : List (KE 7)), ∃ (N : Chunk), [(0, .pointer (some ⟨b, 0, none⟩)), (3, .pointer (some ⟨b_1, 0, none⟩)), (36, .slice c35.la (T.at 2).l.length c35.lc), (37, .int .i64 ((T.at 2).l.length : Int))] = l' ∧ N :: [(b_1, .cells (c.cells T).toArray 39 (0, 0))] :: [(b, .cells [.int .i16 ver, .int .i32 (IntKind.i32.wrap (T.at 0).n), .int .i16 (IntKind.i16.wrap (T.at 1).n), .slice a m c_, .map none].toArray 125 (0, 0))] :: L = L' ∧ Row 185 7 a m c_ (es.flatMap fk) N ∧ m = es.length ∧ (∀ p : KE 7, p ∈ es → At_DescribeLogDirsResponseDir H' p.2 (fk p)) ∧ es.map (·.2) = ((T.at 2).l.take k).map id ∧ a.isNone = false) [(0, .pointer (some ⟨b, 0, none⟩)), (3, .pointer (some ⟨b_1, 0, none⟩)), (36, .slice c35.la (T.at 2).l.length c35.lc), (37, .int .i64 ((T.at 2).l.length : Int))] (fun k l' H' L' h => ?_) (by omega) rfl (.cons rfl (.cons rfl (.cons rfl (.cons rfl (.nil _))))) ⟨some ⟨bm31, 0, none⟩, 0, _, [], N31, rfl, rfl, r31, rfl, (fun p hp => by cases hp), (by simp), rfl⟩ rfl rfl rfl rfl rfl (fun k l' H' L' hk le_8 hI => ?_) (fun l' H' L' le_9 hI => ?_)
      · obtain ⟨a, m, c_, es, N, rfl, _⟩ := h; exact ⟨rfl, rfl, rfl, rfl⟩
      · skip
        obtain ⟨a, m, c_, es, N, rfl, rfl, pk0, pk1, pk2, pk3, pk4⟩ := hI
        refine sr ?_
        obtain ⟨b_10, o_11, e_12, g_13⟩ := (g35.l.mono le_8).at_ (ne_nil_of_lt hk)
        obtain ⟨c_14, q_15, q_16⟩ := g_13 k hk
        refine ix2 Try.runUnderlying36 Try.sizeOf39 rfl e_12 rfl rfl hk rfl ?_
        refine la (Says.fz q_15) Try.isAgg39 Try.sizeOf39 rfl (Nat.add_zero _).symm rfl rfl ?_
        refine al Try.zeroValue39 rfl rfl (fun b_17 => ?_)
        refine sa Try.sizeOf39 rfl rfl rfl rfl rfl .head ?_
        refine nl ?_
        refine rgD 11 (.keep (.skip (.keep (.keep .nil)))) mixed ?_
        refine dT 0 rfl rfl rfl (by kernel_rfl) (fun _ _ _ h => h) (y_mv rfl) (.keep (.skip (.keep (.keep .nil)))) (Fz.le.refl _) ?_
        refine dT 1 rfl rfl rfl (by kernel_rfl) (fun _ _ _ h => h) (y_mv rfl) (.keep (.skip (.keep (.keep .nil)))) (Fz.le.refl _) ?_
        refine dT 2 rfl rfl rfl (by kernel_rfl) (fun _ _ _ h => h) (y_nc rfl) (.keep (.skip (.keep (.keep .nil)))) (Fz.le.refl _) ?_
        refine dT 3 rfl rfl rfl (by kernel_rfl) (fun _ _ _ h => h) (y_fa0 F125_3 rfl) (.keep (.skip (.keep (.keep .nil)))) (Fz.le.refl _) ?_
        refine dT 4 rfl rfl rfl (by kernel_rfl) (fun _ _ _ h => h) (y_ld (Says.own (.tail (.tail .head))) Try.isAgg123 rfl (Nat.zero_add _).symm rfl) (.keep (.skip (.keep (.keep .nil)))) (Fz.le.refl _) ?_
        refine dT 5 rfl rfl rfl (by kernel_rfl) (fun _ _ _ h => h) (y_la (Says.own .head) Try.isAgg39 Try.sizeOf39 rfl (Nat.zero_add _).symm rfl) (.keep (.skip (.keep (.keep .nil)))) (Fz.le.refl _) ?_
        refine dE 6 (by kernel_rfl) rfl ?_
        refine cl rfl rfl rfl (make_DescribeLogDirsResponseDir q_16 ((hf.at 2).el (List.getElem_mem hk))) rfl (fun v H1 L1 le_18 hR => ?_)
        obtain ⟨rfl, cs48, rfl, g48⟩ := hR
        have ho48 := At_DescribeLogDirsResponseDir.ok g48
        have gg48 := g48
        obtain ⟨a2e, c2e, mte, rfl, he0, he1⟩ := g48
        refine dN (.keep (.skip (.keep (.keep .nil)))) le_18 ?_
        refine dE 7 (by kernel_rfl) rfl ?_
        refine bs' L123 rfl rfl rfl rfl (fun b_19 => ?_)
        refine dN (.skip (.keep (.skip (.keep (.keep .nil))))) le_18 ?_
        refine dE 8 (by kernel_rfl) rfl ?_
        have hmk : m = k := by have h1 := congrArg List.length pk3; rw [List.length_map, List.length_map, List.length_take] at h1; omega
        refine ap (news := fk ((⟨_, ho48⟩, (T.at 2).l[k]) : KE 7)) Try.underlying123 I185 rfl rfl pk0 (fun _ => (.tail (.tail .head))) (src_says Try.underlying123 rfl (fun _ => Says.own .head) (fk_one _)) (by omega) (by unfold maxLen; omega) rfl (fun a50 c50 N50 r50 z50 => ?_)
        rw [flatMap_snoc'] at r50
        have hin : a50.isNone = false := by cases a50 with | none => have := z50.1 rfl; omega | some _ => rfl
        refine dN (.skip (.keep (.skip (.keep (.keep .nil))))) le_18 ?_
        refine dE 9 (by kernel_rfl) rfl ?_
        refine nc rfl rfl ?_
        refine dN (.skip (.keep (.skip (.keep (.keep .nil))))) le_18 ?_
        refine dT 10 rfl rfl rfl (by kernel_rfl) (fun _ _ _ h => h) (y_fa0 F125_3 rfl) (.skip (.keep (.skip (.keep (.keep .nil))))) le_18 ?_
        refine dE 11 (by kernel_rfl) rfl ?_
        refine st Try.sizeOf123 rfl rfl rfl rfl (.tail (.tail (.tail (.tail .head)))) ?_
        refine dNk (by kernel_rfl) ?_
        refine dD (by kernel_rfl) ?_
        refine Nb ?_
        refine drN .head ?_
        refine drN .head ?_
        refine fun a_ w_ hA hw => ⟨_, _, _, hA.sub ?_, (le_8.trans le_18), hw, _, rfl, a50, _, c50, (es ++ [((⟨_, ho48⟩, (T.at 2).l[k]) : KE 7)]), N50, rfl, rfl, r50, (by simp; omega), (fun p hp => (mem_snoc hp).elim (fun h => At_DescribeLogDirsResponseDir.mono _ _ _ _ le_18 (pk2 p h)) (fun h => h ▸ At_DescribeLogDirsResponseDir.mono _ _ _ _ (Fz.le.refl _) gg48)), (map_take_snoc hk pk3), hin⟩
        exact (.cons rfl (.cons rfl (.cons rfl (.cons rfl (.cons rfl (.nil _))))))
      · skip
        obtain ⟨a, m, c_, es, N, rfl, rfl, pk0, pk1, pk2, pk3, pk4⟩ := hI
        refine toNn ?_
        have hm : m = (T.at 2).l.length := by have h1 := congrArg List.length pk3; rw [List.length_map, List.length_map, List.take_length] at h1; omega
        have hfe : es.map (·.2) = (T.at 2).l := by rw [pk3, List.take_length, List.map_id]
        refine frN pk0 .head (fun H2 hle2 hfz => ?_)
        have hrw := RowsAt.row (R := At_DescribeLogDirsResponseDir) hfz pk1 pk0.le.1 (fun p hp => At_DescribeLogDirsResponseDir.mono _ _ _ _ hle2 (pk2 p hp))
        rw [hfe, ← hlt] at hrw
        have hnl : m = (lT (T.at 2)).length := by rw [hlt]; exact hm
        have hla : ListAt H2 (T.at 2) 7 At_DescribeLogDirsResponseDir a c_ := ⟨hrw, by rw [pk4, hnu]⟩
        refine fun a_ w_ hA hw => ⟨_, _, _, hA.sub ?_, (le_9.trans hle2), hw, a, m, c_, rfl, rfl, hnl, hla⟩
        exact (.cons rfl (.cons rfl (.nil _)))
    · skip
      have hnu : (T.at 2).nul = true := by simpa using h25
      refine skN ?_
      refine fun a_ w_ hA hw => ⟨_, _, _, hA.sub ?_, (Fz.le.refl _), hw, none, 0, 0, rfl, rfl, (by rw [lT_nul hnu]; rfl), (ListAt.none hnu)⟩
      exact (.cons rfl (.cons rfl (.nil _)))
  · skip
    obtain ⟨a2, n2, c2, rfl, rfl, pj0, pj1⟩ := hI
    subst pj0
    have hf2 := pj1
    refine sr ?_
    refine fa0 F39_4 rfl rfl ?_
    refine ld (Says.own .head) Try.isAgg37 rfl (Nat.zero_add _).symm rfl rfl ?_
    refine ls Try.runUnderlying37 rfl rfl ?_
    refine mv rfl rfl ?_
    refine nl ?_
    refine nulC2 ?_
    have hun := hf.un
    refine fr (T.u.length) (fun q l' H' L' => ∃ (m : Option Nat), ∃ (kvs : List KV), ∃ (M : Chunk), [(0, .pointer (some ⟨b, 0, none⟩)), (55, .slice c.ua T.u.length c.uc), (56, .int .i64 (T.u.length : Int))] = l' ∧ M :: [(b_1, .cells (c.cells T).toArray 39 (0, 0))] :: [(b, .cells [.int .i16 ver, .int .i32 (IntKind.i32.wrap (T.at 0).n), .int .i16 (IntKind.i16.wrap (T.at 1).n), .slice a2 (lT (T.at 2)).length c2, .map m].toArray 125 (0, 0))] :: L = L' ∧ MapC m kvs M ∧ KvTo H' (T.u.take q) kvs) [(0, .pointer (some ⟨b, 0, none⟩)), (55, .slice c.ua T.u.length c.uc), (56, .int .i64 (T.u.length : Int))] (fun q l' H' L' h => ?_) (by omega) rfl (.cons rfl (.cons rfl (.cons rfl (.nil _)))) ⟨none, [], [], rfl, rfl, MapC.nil, (KvTo.nil _)⟩ rfl rfl rfl rfl rfl (fun q l' H' L' hq le_20 hI => ?_) (fun l' H' L' le_21 hI => ?_)
    · obtain ⟨m, kvs, M, rfl, _⟩ := h; exact ⟨rfl, rfl, rfl, rfl⟩
    · skip
      obtain ⟨m, kvs, M, rfl, rfl, pq0, pq1⟩ := hI
      refine sr ?_
      obtain ⟨b_22, o_23, e_24, g_25⟩ := (hT.u.mono (le_5.trans le_20)).at_ (ne_nil_of_lt hq)
      obtain ⟨c_26, q_27, q_28⟩ := g_25 q hq
      refine ix2 Try.runUnderlying37 Try.sizeOf63 rfl e_24 rfl rfl hq rfl ?_
      refine la (Says.fz q_27) Try.isAgg63 Try.sizeOf63 rfl (Nat.add_zero _).symm rfl rfl ?_
      refine al Try.zeroValue63 rfl rfl (fun b_29 => ?_)
      refine sa Try.sizeOf63 rfl rfl rfl rfl rfl .head ?_
      refine nl ?_
      refine rgD 8 (.keep (.skip (.keep .nil))) mixed ?_
      refine dT 0 rfl rfl rfl (by kernel_rfl) (fun _ _ _ h => h) (y_mv rfl) (.keep (.skip (.keep .nil))) (Fz.le.refl _) ?_
      refine dT 1 rfl rfl rfl (by kernel_rfl) (fun _ _ _ h => h) (y_nc rfl) (.keep (.skip (.keep .nil))) (Fz.le.refl _) ?_
      refine dT 2 rfl rfl rfl (by kernel_rfl) (fun _ _ _ h => h) (y_fa0 F125_4 rfl) (.keep (.skip (.keep .nil))) (Fz.le.refl _) ?_
      refine dT 3 rfl rfl rfl (by kernel_rfl) (fun _ _ _ h => h) (y_fa0 F63_0 rfl) (.keep (.skip (.keep .nil))) (Fz.le.refl _) ?_
      refine dT 4 rfl rfl rfl (by kernel_rfl) (fun _ _ _ h => h) (y_ld (Says.own .head) Try.isAgg60 rfl (Nat.zero_add _).symm rfl) (.keep (.skip (.keep .nil))) (Fz.le.refl _) ?_
      refine dT 5 rfl rfl rfl (by kernel_rfl) (fun _ _ _ h => h) (y_fa0 F63_1 rfl) (.keep (.skip (.keep .nil))) (Fz.le.refl _) ?_
      refine dT 6 rfl rfl rfl (by kernel_rfl) (fun _ _ _ h => h) (y_ld (Says.own .head) Try.isAgg22 rfl (Nat.zero_add _).symm rfl) (.keep (.skip (.keep .nil))) (Fz.le.refl _) ?_
      refine dE 7 (by kernel_rfl) rfl ?_
      refine tf (.tail (.tail (.tail .head))) ?_
      refine tf (.tail (.tail .head)) ?_
      refine cl rfl rfl rfl (t_set (cs := [.int .i16 ver, .int .i32 (IntKind.i32.wrap (T.at 0).n), .int .i16 (IntKind.i16.wrap (T.at 1).n), .slice a2 (lT (T.at 2)).length c2, .map m]) (off := 4) pq0 rfl) rfl (fun v H1 L1 hle hR => ?_)
      obtain ⟨rfl, g68, cs68, hs68, rfl⟩ := hR
      obtain rfl : [.int .i16 ver, .int .i32 (IntKind.i32.wrap (T.at 0).n), .int .i16 (IntKind.i16.wrap (T.at 1).n), .slice a2 (lT (T.at 2)).length c2, .map (some g68)] = cs68 := Option.some.inj hs68
      refine dN (.skip (.skip (.keep (.keep .nil)))) (Fz.le.refl _) ?_
      refine dD (by kernel_rfl) ?_
      refine Nb ?_
      refine drN (.tail (.tail .head)) ?_
      refine tfN (.tail .head) ?_
      refine tfN (.tail (.tail .head)) ?_
      refine tfN (.tail (.tail .head)) ?_
      refine fun a_ w_ hA hw => ⟨_, _, _, hA.sub ?_, le_20, hw, _, rfl, _, _, [(g68, _)], rfl, rfl, (.inr ⟨g68, rfl, rfl⟩), (KvTo.put hf.u (List.getElem?_eq_getElem hq) pq1 (⟨⟨_, _, rfl, q_28.val⟩, q_28.lo, q_28.hi⟩))⟩
      exact (.cons rfl (.cons rfl (.cons rfl (.cons rfl (.nil _)))))
    · skip
      obtain ⟨m, kvs, M, rfl, rfl, pq0, pq1⟩ := hI
      refine toNn ?_
      rw [List.take_length] at pq1
      refine frMN pq0 .head (fun H3 hle3 hmf => ?_)
      have hft := KvTo.at_ hf.u (pq1.mono hle3) hmf
      refine drN .head ?_
      exact fun _ _ hA hw => rn rfl (le_5.trans (le_21.trans hle3)) ⟨_, rfl, ⟨a2, c2, m, rfl, (hf2.mono At_DescribeLogDirsResponseDir.mono (le_21.trans hle3)), hft⟩⟩ hA hw
end Go.Sx

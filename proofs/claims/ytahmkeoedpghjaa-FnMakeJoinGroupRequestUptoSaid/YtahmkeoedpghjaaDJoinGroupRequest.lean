import Derived.Test.YtahmkeoedpghjaaBJoinGroupRequest
import Derived.Test.YtahmkeoedpghjaaD0
import Derived.KernelRfl
set_option linter.unusedVariables false
set_option linter.unusedSimpArgs false
set_option maxRecDepth 100000
set_option maxHeartbeats 20000000
namespace Go.Sx
open Go.Proofs
theorem make_JoinGroupRequestProtocol {H : Fz} {L : Own} {c : TC} {T : Tr} (hT : TreeAt H c T) (hf : Fine T) :
    Fn Try.prog 161 [.agg (c.cells T).toArray] H L (fun v H' L' => L = L' ∧ ∃ cs : List Value, v = .agg cs.toArray ∧ At_JoinGroupRequestProtocol H' T cs) := by
  refine Fn.mk Try.call161 Try.func161 rfl Try.ntmps161 rfl ?_
  refine sr ?_
  refine bx rfl rfl rfl (fun b_1 => ?_)
  refine al Try.zeroValue168 rfl rfl (fun b_2 => ?_)
  refine nl ?_
  refine sr ?_
  refine al Try.zeroValue168 rfl rfl (fun b_3 => ?_)
  refine nl ?_
  refine sr ?_
  refine la (Says.own (.tail (.tail .head))) Try.isAgg39 Try.sizeOf39 rfl (Nat.zero_add _).symm rfl rfl ?_
  refine cl rfl rfl rfl (m_at (i := 0) hT) rfl (fun v H1 L1 hle hR => ?_)
  obtain ⟨rfl, rfl, c7, rfl, g7⟩ := hR
  refine fc C39_1 rfl rfl rfl ?_
  refine cbS Try.underlying22 Try.underlying5 Try.underlying9 rfl g7.s rfl rfl ?_
  refine fa0 F168_0 rfl rfl ?_
  refine st Try.sizeOf9 rfl rfl rfl rfl .head ?_
  refine nl ?_
  refine sr ?_
  refine la (Says.own (.tail (.tail .head))) Try.isAgg39 Try.sizeOf39 rfl (Nat.zero_add _).symm rfl rfl ?_
  refine cl rfl rfl rfl (m_at (i := 1) hT) rfl (fun v H1 L1 hle hR => ?_)
  obtain ⟨rfl, rfl, c12, rfl, g12⟩ := hR
  refine cl rfl rfl rfl (m_octetsOf g12) rfl (fun v H1 L1 le_6 hR => ?_)
  obtain ⟨rfl, a1, c1, rfl, hf1⟩ := hR
  refine fa0 F168_1 rfl rfl ?_
  refine st Try.sizeOf22 rfl rfl rfl rfl .head ?_
  refine nl ?_
  refine sq ?_
  refine sr ?_
  refine fa0 F39_4 rfl rfl ?_
  refine ld (Says.own (.tail (.tail .head))) Try.isAgg37 rfl (Nat.zero_add _).symm rfl rfl ?_
  refine ls Try.runUnderlying37 rfl rfl ?_
  refine mv rfl rfl ?_
  refine nl ?_
  refine nulC2 ?_
  have hun := hf.un
  refine fr (T.u.length) (fun q l' H' L' => ∃ (m : Option Nat), ∃ (kvs : List KV), ∃ (M : Chunk), [(2, .pointer (some ⟨b_2, 0, none⟩)), (3, .pointer (some ⟨b_3, 0, none⟩)), (16, .slice c.ua T.u.length c.uc), (17, .int .i64 (T.u.length : Int))] = l' ∧ M :: [(b_3, .cells [.string ⟨(T.at 0).s.toArray⟩, .slice a1 (sT (T.at 1)).length c1, .map m].toArray 168 (0, 0))] :: [(b_2, .cells [.string ⟨#[]⟩, .slice none 0 0, .map none].toArray 168 (0, 0))] :: [(b_1, .cells (c.cells T).toArray 39 (0, 0))] :: L = L' ∧ MapC m kvs M ∧ KvTo H' (T.u.take q) kvs) [(2, .pointer (some ⟨b_2, 0, none⟩)), (3, .pointer (some ⟨b_3, 0, none⟩)), (16, .slice c.ua T.u.length c.uc), (17, .int .i64 (T.u.length : Int))] (fun q l' H' L' h => ?_) (by omega) rfl (.cons rfl (.cons rfl (.cons rfl (.cons rfl (.nil _))))) ⟨none, [], [], rfl, rfl, MapC.nil, (KvTo.nil _)⟩ rfl rfl rfl rfl rfl (fun q l' H' L' hq le_7 hI => ?_) (fun l' H' L' le_8 hI => ?_)
  · obtain ⟨m, kvs, M, rfl, _⟩ := h; exact ⟨rfl, rfl, rfl, rfl⟩
  · skip
    obtain ⟨m, kvs, M, rfl, rfl, pq0, pq1⟩ := hI
    refine sr ?_
    obtain ⟨b_9, o_10, e_11, g_12⟩ := (hT.u.mono (le_6.trans le_7)).at_ (ne_nil_of_lt hq)
    obtain ⟨c_13, q_14, q_15⟩ := g_12 q hq
    refine ix2 Try.runUnderlying37 Try.sizeOf63 rfl e_11 rfl rfl hq rfl ?_
    refine la (Says.fz q_14) Try.isAgg63 Try.sizeOf63 rfl (Nat.add_zero _).symm rfl rfl ?_
    refine al Try.zeroValue63 rfl rfl (fun b_16 => ?_)
    refine sa Try.sizeOf63 rfl rfl rfl rfl rfl .head ?_
    refine nl ?_
    refine rg ?_
    refine fa0 F168_2 rfl rfl ?_
    refine fa0 F63_0 rfl rfl ?_
    refine ld (Says.own .head) Try.isAgg60 rfl (Nat.zero_add _).symm rfl rfl ?_
    refine fa0 F63_1 rfl rfl ?_
    refine ld (Says.own .head) Try.isAgg22 rfl (Nat.zero_add _).symm rfl rfl ?_
    refine tf (.tail (.tail .head)) ?_
    refine tf (.tail (.tail .head)) ?_
    refine cl rfl rfl rfl (t_set (cs := [.string ⟨(T.at 0).s.toArray⟩, .slice a1 (sT (T.at 1)).length c1, .map m]) (off := 2) pq0 rfl) rfl (fun v H1 L1 hle hR => ?_)
    obtain ⟨rfl, g27, cs27, hs27, rfl⟩ := hR
    obtain rfl : [.string ⟨(T.at 0).s.toArray⟩, .slice a1 (sT (T.at 1)).length c1, .map (some g27)] = cs27 := Option.some.inj hs27
    refine nN ?_
    refine Nb ?_
    refine drN (.tail (.tail .head)) ?_
    refine fun a_ w_ hA hw => ⟨_, _, _, hA.sub ?_, le_7, hw, _, rfl, _, _, [(g27, _)], rfl, rfl, (.inr ⟨g27, rfl, rfl⟩), (KvTo.put hf.u (List.getElem?_eq_getElem hq) pq1 (⟨⟨_, _, rfl, q_15.val⟩, q_15.lo, q_15.hi⟩))⟩
    exact (.cons rfl (.cons rfl (.cons rfl (.cons rfl (.cons rfl (.nil _))))))
  · skip
    obtain ⟨m, kvs, M, rfl, rfl, pq0, pq1⟩ := hI
    refine toWp ?_
    rw [List.take_length] at pq1
    refine frMW pq0 .head (fun H3 hle3 hmf => ?_)
    have hft := KvTo.at_ hf.u (pq1.mono hle3) hmf
    refine sr ?_
    refine la (Says.own .head) Try.isAgg168 Try.sizeOf168 rfl (Nat.zero_add _).symm rfl rfl ?_
    refine sa Try.sizeOf168 rfl rfl rfl rfl rfl (.tail .head) ?_
    refine nl ?_
    refine drW .head ?_
    refine drW (.tail .head) ?_
    exact rC rfl Try.isAgg168 Try.sizeOf168 rfl .head rfl (le_6.trans (le_8.trans hle3)) (fun _ _ h => h) ⟨rfl, _, rfl, ⟨a1, c1, m, rfl, (hf1.mono (le_8.trans hle3)), hft⟩⟩
theorem fill_JoinGroupRequest {H : Fz} {L : Own} {b : Nat} {ver : Int} {c : TC} {T : Tr} (hT : TreeAt H c T) (hf : Fine T) :
    Fn Try.prog 105 [.pointer (some ⟨b, 0, none⟩), .agg (c.cells T).toArray] H ([(b, .cells [.int .i16 ver, .string ⟨#[]⟩, .int .i32 0, .int .i32 0, .string ⟨#[]⟩, .pointer none, .string ⟨#[]⟩, .slice none 0 0, .pointer none, .map none].toArray 113 (0, 0))] :: L) (fun _ H' L' => ∃ cs : List Value, L' = [(b, .cells cs.toArray 113 (0, 0))] :: L ∧ At_JoinGroupRequest ver H' T cs) := by
  refine Fn.mk Try.call105 Try.func105 rfl Try.ntmps105 rfl ?_
  refine sr ?_
  refine bx rfl rfl rfl (fun b_1 => ?_)
  refine nl ?_
  refine sr ?_
  refine mv rfl rfl ?_
  refine la (Says.own .head) Try.isAgg39 Try.sizeOf39 rfl (Nat.zero_add _).symm rfl rfl ?_
  refine cl rfl rfl rfl (m_at (i := 0) hT) rfl (fun v H1 L1 hle hR => ?_)
  obtain ⟨rfl, rfl, c10, rfl, g10⟩ := hR
  refine fc C39_1 rfl rfl rfl ?_
  refine cbS Try.underlying22 Try.underlying5 Try.underlying9 rfl g10.s rfl rfl ?_
  refine nc rfl rfl ?_
  refine fa0 F113_1 rfl rfl ?_
  refine st Try.sizeOf9 rfl rfl rfl rfl (.tail .head) ?_
  refine nl ?_
  refine sr ?_
  refine mv rfl rfl ?_
  refine la (Says.own .head) Try.isAgg39 Try.sizeOf39 rfl (Nat.zero_add _).symm rfl rfl ?_
  refine cl rfl rfl rfl (m_at (i := 1) hT) rfl (fun v H1 L1 hle hR => ?_)
  obtain ⟨rfl, rfl, c17, rfl, g17⟩ := hR
  refine fc C39_0 rfl rfl rfl ?_
  refine cv Try.runUnderlying2 Try.runUnderlying21 rfl rfl rfl ?_
  refine nc rfl rfl ?_
  refine fa0 F113_2 rfl rfl ?_
  refine st Try.sizeOf21 rfl rfl rfl rfl (.tail .head) ?_
  refine nl ?_
  refine sr ?_
  refine mv rfl rfl ?_
  refine la (Says.own .head) Try.isAgg39 Try.sizeOf39 rfl (Nat.zero_add _).symm rfl rfl ?_
  refine cl rfl rfl rfl (m_at (i := 2) hT) rfl (fun v H1 L1 hle hR => ?_)
  obtain ⟨rfl, rfl, c24, rfl, g24⟩ := hR
  refine fc C39_0 rfl rfl rfl ?_
  refine cv Try.runUnderlying2 Try.runUnderlying21 rfl rfl rfl ?_
  refine nc rfl rfl ?_
  refine fa0 F113_3 rfl rfl ?_
  refine st Try.sizeOf21 rfl rfl rfl rfl (.tail .head) ?_
  refine nl ?_
  refine sr ?_
  refine mv rfl rfl ?_
  refine la (Says.own .head) Try.isAgg39 Try.sizeOf39 rfl (Nat.zero_add _).symm rfl rfl ?_
  refine cl rfl rfl rfl (m_at (i := 3) hT) rfl (fun v H1 L1 hle hR => ?_)
  obtain ⟨rfl, rfl, c31, rfl, g31⟩ := hR
  refine fc C39_1 rfl rfl rfl ?_
  refine cbS Try.underlying22 Try.underlying5 Try.underlying9 rfl g31.s rfl rfl ?_
  refine nc rfl rfl ?_
  refine fa0 F113_4 rfl rfl ?_
  refine st Try.sizeOf9 rfl rfl rfl rfl (.tail .head) ?_
  refine nl ?_
  refine sr ?_
  refine mv rfl rfl ?_
  refine la (Says.own .head) Try.isAgg39 Try.sizeOf39 rfl (Nat.zero_add _).symm rfl rfl ?_
  refine cl rfl rfl rfl (m_at (i := 4) hT) rfl (fun v H1 L1 hle hR => ?_)
  obtain ⟨rfl, rfl, c38, rfl, g38⟩ := hR
  refine cl rfl rfl rfl (m_textOf g38) rfl (fun v H1 L1 le_7 hR => ?_)
  obtain ⟨rfl, p4, rfl, hf4⟩ := hR
  refine nc rfl rfl ?_
  refine fa0 F113_5 rfl rfl ?_
  refine st Try.sizeOf51 rfl rfl rfl rfl (.tail .head) ?_
  refine nl ?_
  refine sr ?_
  refine mv rfl rfl ?_
  refine la (Says.own .head) Try.isAgg39 Try.sizeOf39 rfl (Nat.zero_add _).symm rfl rfl ?_
  refine cl rfl rfl rfl (m_at (i := 5) (hT.mono le_7)) rfl (fun v H1 L1 hle hR => ?_)
  obtain ⟨rfl, rfl, c44, rfl, g44⟩ := hR
  refine fc C39_1 rfl rfl rfl ?_
  refine cbS Try.underlying22 Try.underlying5 Try.underlying9 rfl g44.s rfl rfl ?_
  refine nc rfl rfl ?_
  refine fa0 F113_6 rfl rfl ?_
  refine st Try.sizeOf9 rfl rfl rfl rfl (.tail .head) ?_
  refine nl ?_
  refine sq ?_
  refine sr ?_
  refine la (Says.own .head) Try.isAgg39 Try.sizeOf39 rfl (Nat.zero_add _).symm rfl rfl ?_
  refine cl rfl rfl rfl (m_at (i := 6) (hT.mono le_7)) rfl (fun v H1 L1 hle hR => ?_)
  obtain ⟨rfl, rfl, c50, rfl, g50⟩ := hR
  refine fc C39_2 rfl rfl rfl ?_
  refine nt rfl rfl ?_
  refine nl ?_
  refine cutT (fun l' H' L' => ∃ (a6 : Option Addr), ∃ (n6 : Nat), ∃ (c6 : Nat), [(0, .pointer (some ⟨b, 0, none⟩)), (3, .pointer (some ⟨b_1, 0, none⟩))] = l' ∧ [(b_1, .cells (c.cells T).toArray 39 (0, 0))] :: [(b, .cells [.int .i16 ver, .string ⟨(T.at 0).s.toArray⟩, .int .i32 (IntKind.i32.wrap (T.at 1).n), .int .i32 (IntKind.i32.wrap (T.at 2).n), .string ⟨(T.at 3).s.toArray⟩, .pointer p4, .string ⟨(T.at 5).s.toArray⟩, .slice a6 n6 c6, .pointer none, .map none].toArray 113 (0, 0))] :: L = L' ∧ n6 = (lT (T.at 6)).length ∧ ListAt H' (T.at 6) 3 At_JoinGroupRequestProtocol a6 c6) ?_ (fun l' H' L' le_10 hI => ?_)
  · skip
    refine cb rfl (fun h52 => ?_) (fun h52 => ?_)
    · skip
      have hnu : (T.at 6).nul = false := by simpa using h52
      have hlt : lT (T.at 6) = (T.at 6).l := lT_not hnu
      have hfl := (hf.at 6).len
      refine sr ?_
      refine mv rfl rfl ?_
      refine la (Says.own .head) Try.isAgg39 Try.sizeOf39 rfl (Nat.zero_add _).symm rfl rfl ?_
      refine cl rfl rfl rfl (m_at (i := 6) (hT.mono le_7)) rfl (fun v H1 L1 hle hR => ?_)
      obtain ⟨rfl, rfl, c55, rfl, g55⟩ := hR
      refine fc C39_3 rfl rfl rfl ?_
      refine ls Try.runUnderlying36 rfl rfl ?_
      refine mks (m := 0) (c := (T.at 6).l.length) (zs := [.string ⟨#[]⟩, .slice none 0 0, .map none]) Try.underlying111 I168 rfl rfl rfl rfl rfl (by omega) (by omega) (by unfold maxLen; omega) rfl (fun bm58 N58 r58 => ?_)
      refine nc rfl rfl ?_
      refine fa0 F113_7 rfl rfl ?_
      refine st Try.sizeOf111 rfl rfl rfl rfl (.tail (.tail .head)) ?_
      refine nl ?_
      refine sr ?_
      refine la (Says.own (.tail .head)) Try.isAgg39 Try.sizeOf39 rfl (Nat.zero_add _).symm rfl rfl ?_
      refine cl rfl rfl rfl (m_at (i := 6) (hT.mono le_7)) rfl (fun v H1 L1 hle hR => ?_)
      obtain ⟨rfl, rfl, c62, rfl, g62⟩ := hR
      refine fc C39_3 rfl rfl rfl ?_
      refine ls Try.runUnderlying36 rfl rfl ?_
      refine mv rfl rfl ?_
      refine nl ?_
      refine fr ((T.at 6).l.length) (fun k l' H' L' => ∃ (a : Option Addr), ∃ (m : Nat), ∃ (c_ : Nat), ∃ (es : List (KE 3)), ∃ (N : Chunk), [(0, .pointer (some ⟨b, 0, none⟩)), (3, .pointer (some ⟨b_1, 0, none⟩)), (63, .slice c62.la (T.at 6).l.length c62.lc), (64, .int .i64 ((T.at 6).l.length : Int))] = l' ∧ N :: [(b_1, .cells (c.cells T).toArray 39 (0, 0))] :: [(b, .cells [.int .i16 ver, .string ⟨(T.at 0).s.toArray⟩, .int .i32 (IntKind.i32.wrap (T.at 1).n), .int .i32 (IntKind.i32.wrap (T.at 2).n), .string ⟨(T.at 3).s.toArray⟩, .pointer p4, .string ⟨(T.at 5).s.toArray⟩, .slice a m c_, .pointer none, .map none].toArray 113 (0, 0))] :: L = L' ∧ Row 168 3 a m c_ (es.flatMap fk) N ∧ m = es.length ∧ (∀ p : KE 3, p ∈ es → At_JoinGroupRequestProtocol H' p.2 (fk p)) ∧ es.map (·.2) = ((T.at 6).l.take k).map id ∧ a.isNone = false) [(0, .pointer (some ⟨b, 0, none⟩)), (3, .pointer (some ⟨b_1, 0, none⟩)), (63, .slice c62.la (T.at 6).l.length c62.lc), (64, .int .i64 ((T.at 6).l.length : Int))] (fun k l' H' L' h => ?_) (by omega) rfl (.cons rfl (.cons rfl (.cons rfl (.cons rfl (.nil _))))) ⟨some ⟨bm58, 0, none⟩, 0, _, [], N58, rfl, rfl, r58, rfl, (fun p hp => by cases hp), (by simp), rfl⟩ rfl rfl rfl rfl rfl (fun k l' H' L' hk le_13 hI => ?_) (fun l' H' L' le_14 hI => ?_)
      · obtain ⟨a, m, c_, es, N, rfl, _⟩ := h; exact ⟨rfl, rfl, rfl, rfl⟩
      · skip
        obtain ⟨a, m, c_, es, N, rfl, rfl, pk0, pk1, pk2, pk3, pk4⟩ := hI
        refine sr ?_
        obtain ⟨b_15, o_16, e_17, g_18⟩ := (g62.l.mono le_13).at_ (ne_nil_of_lt hk)
        obtain ⟨c_19, q_20, q_21⟩ := g_18 k hk
        refine ix2 Try.runUnderlying36 Try.sizeOf39 rfl e_17 rfl rfl hk rfl ?_
        refine la (Says.fz q_20) Try.isAgg39 Try.sizeOf39 rfl (Nat.add_zero _).symm rfl rfl ?_
        refine al Try.zeroValue39 rfl rfl (fun b_22 => ?_)
        refine sa Try.sizeOf39 rfl rfl rfl rfl rfl .head ?_
        refine nl ?_
        refine rgD 11 (.keep (.skip (.keep (.keep .nil)))) mixed ?_
        refine dT 0 rfl rfl rfl (by kernel_rfl) (fun _ _ _ h => h) (y_mv rfl) (.keep (.skip (.keep (.keep .nil)))) (Fz.le.refl _) ?_
        refine dT 1 rfl rfl rfl (by kernel_rfl) (fun _ _ _ h => h) (y_mv rfl) (.keep (.skip (.keep (.keep .nil)))) (Fz.le.refl _) ?_
        refine dT 2 rfl rfl rfl (by kernel_rfl) (fun _ _ _ h => h) (y_nc rfl) (.keep (.skip (.keep (.keep .nil)))) (Fz.le.refl _) ?_
        refine dT 3 rfl rfl rfl (by kernel_rfl) (fun _ _ _ h => h) (y_fa0 F113_7 rfl) (.keep (.skip (.keep (.keep .nil)))) (Fz.le.refl _) ?_
        refine dT 4 rfl rfl rfl (by kernel_rfl) (fun _ _ _ h => h) (y_ld (Says.own (.tail (.tail .head))) Try.isAgg111 rfl (Nat.zero_add _).symm rfl) (.keep (.skip (.keep (.keep .nil)))) (Fz.le.refl _) ?_
        refine dT 5 rfl rfl rfl (by kernel_rfl) (fun _ _ _ h => h) (y_la (Says.own .head) Try.isAgg39 Try.sizeOf39 rfl (Nat.zero_add _).symm rfl) (.keep (.skip (.keep (.keep .nil)))) (Fz.le.refl _) ?_
        refine dE 6 (by kernel_rfl) rfl ?_
        refine cl rfl rfl rfl (make_JoinGroupRequestProtocol q_21 ((hf.at 6).el (List.getElem_mem hk))) rfl (fun v H1 L1 le_23 hR => ?_)
        obtain ⟨rfl, cs75, rfl, g75⟩ := hR
        have ho75 := At_JoinGroupRequestProtocol.ok g75
        have gg75 := g75
        obtain ⟨a1e, c1e, mte, rfl, he0, he1⟩ := g75
        refine dN (.keep (.skip (.keep (.keep .nil)))) le_23 ?_
        refine dE 7 (by kernel_rfl) rfl ?_
        refine bs' L111 rfl rfl rfl rfl (fun b_24 => ?_)
        refine dN (.skip (.keep (.skip (.keep (.keep .nil))))) le_23 ?_
        refine dE 8 (by kernel_rfl) rfl ?_
        have hmk : m = k := by have h1 := congrArg List.length pk3; rw [List.length_map, List.length_map, List.length_take] at h1; omega
        refine ap (news := fk ((⟨_, ho75⟩, (T.at 6).l[k]) : KE 3)) Try.underlying111 I168 rfl rfl pk0 (fun _ => (.tail (.tail .head))) (src_says Try.underlying111 rfl (fun _ => Says.own .head) (fk_one _)) (by omega) (by unfold maxLen; omega) rfl (fun a77 c77 N77 r77 z77 => ?_)
        rw [flatMap_snoc'] at r77
        have hin : a77.isNone = false := by cases a77 with | none => have := z77.1 rfl; omega | some _ => rfl
        refine dN (.skip (.keep (.skip (.keep (.keep .nil))))) le_23 ?_
        refine dE 9 (by kernel_rfl) rfl ?_
        refine nc rfl rfl ?_
        refine dN (.skip (.keep (.skip (.keep (.keep .nil))))) le_23 ?_
        refine dT 10 rfl rfl rfl (by kernel_rfl) (fun _ _ _ h => h) (y_fa0 F113_7 rfl) (.skip (.keep (.skip (.keep (.keep .nil))))) le_23 ?_
        refine dE 11 (by kernel_rfl) rfl ?_
        refine st Try.sizeOf111 rfl rfl rfl rfl (.tail (.tail (.tail (.tail .head)))) ?_
        refine dNk (by kernel_rfl) ?_
        refine dD (by kernel_rfl) ?_
        refine Nb ?_
        refine drN .head ?_
        refine drN .head ?_
        refine fun a_ w_ hA hw => ⟨_, _, _, hA.sub ?_, (le_13.trans le_23), hw, _, rfl, a77, _, c77, (es ++ [((⟨_, ho75⟩, (T.at 6).l[k]) : KE 3)]), N77, rfl, rfl, r77, (by simp; omega), (fun p hp => (mem_snoc hp).elim (fun h => At_JoinGroupRequestProtocol.mono _ _ _ _ le_23 (pk2 p h)) (fun h => h ▸ At_JoinGroupRequestProtocol.mono _ _ _ _ (Fz.le.refl _) gg75)), (map_take_snoc hk pk3), hin⟩
        exact (.cons rfl (.cons rfl (.cons rfl (.cons rfl (.cons rfl (.nil _))))))
      · skip
        obtain ⟨a, m, c_, es, N, rfl, rfl, pk0, pk1, pk2, pk3, pk4⟩ := hI
        refine toNn ?_
        have hm : m = (T.at 6).l.length := by have h1 := congrArg List.length pk3; rw [List.length_map, List.length_map, List.take_length] at h1; omega
        have hfe : es.map (·.2) = (T.at 6).l := by rw [pk3, List.take_length, List.map_id]
        refine frN pk0 .head (fun H2 hle2 hfz => ?_)
        have hrw := RowsAt.row (R := At_JoinGroupRequestProtocol) hfz pk1 pk0.le.1 (fun p hp => At_JoinGroupRequestProtocol.mono _ _ _ _ hle2 (pk2 p hp))
        rw [hfe, ← hlt] at hrw
        have hnl : m = (lT (T.at 6)).length := by rw [hlt]; exact hm
        have hla : ListAt H2 (T.at 6) 3 At_JoinGroupRequestProtocol a c_ := ⟨hrw, by rw [pk4, hnu]⟩
        refine fun a_ w_ hA hw => ⟨_, _, _, hA.sub ?_, (le_14.trans hle2), hw, a, m, c_, rfl, rfl, hnl, hla⟩
        exact (.cons rfl (.cons rfl (.nil _)))
    · skip
      have hnu : (T.at 6).nul = true := by simpa using h52
      refine skN ?_
      refine fun a_ w_ hA hw => ⟨_, _, _, hA.sub ?_, (Fz.le.refl _), hw, none, 0, 0, rfl, rfl, (by rw [lT_nul hnu]; rfl), (ListAt.none hnu)⟩
      exact (.cons rfl (.cons rfl (.nil _)))
  · skip
    obtain ⟨a6, n6, c6, rfl, rfl, pj0, pj1⟩ := hI
    subst pj0
    have hf6 := pj1
    refine sr ?_
    refine mv rfl rfl ?_
    refine la (Says.own .head) Try.isAgg39 Try.sizeOf39 rfl (Nat.zero_add _).symm rfl rfl ?_
    refine cl rfl rfl rfl (m_at (i := 7) (hT.mono (le_7.trans le_10))) rfl (fun v H1 L1 hle hR => ?_)
    obtain ⟨rfl, rfl, c83, rfl, g83⟩ := hR
    refine cl rfl rfl rfl (m_textOf g83) rfl (fun v H1 L1 le_26 hR => ?_)
    obtain ⟨rfl, p7, rfl, hf7⟩ := hR
    refine nc rfl rfl ?_
    refine fa0 F113_8 rfl rfl ?_
    refine st Try.sizeOf51 rfl rfl rfl rfl (.tail .head) ?_
    refine nl ?_
    refine sr ?_
    refine fa0 F39_4 rfl rfl ?_
    refine ld (Says.own .head) Try.isAgg37 rfl (Nat.zero_add _).symm rfl rfl ?_
    refine ls Try.runUnderlying37 rfl rfl ?_
    refine mv rfl rfl ?_
    refine nl ?_
    refine nulC2 ?_
    have hun := hf.un
    refine fr (T.u.length) (fun q l' H' L' => ∃ (m : Option Nat), ∃ (kvs : List KV), ∃ (M : Chunk), [(0, .pointer (some ⟨b, 0, none⟩)), (88, .slice c.ua T.u.length c.uc), (89, .int .i64 (T.u.length : Int))] = l' ∧ M :: [(b_1, .cells (c.cells T).toArray 39 (0, 0))] :: [(b, .cells [.int .i16 ver, .string ⟨(T.at 0).s.toArray⟩, .int .i32 (IntKind.i32.wrap (T.at 1).n), .int .i32 (IntKind.i32.wrap (T.at 2).n), .string ⟨(T.at 3).s.toArray⟩, .pointer p4, .string ⟨(T.at 5).s.toArray⟩, .slice a6 (lT (T.at 6)).length c6, .pointer p7, .map m].toArray 113 (0, 0))] :: L = L' ∧ MapC m kvs M ∧ KvTo H' (T.u.take q) kvs) [(0, .pointer (some ⟨b, 0, none⟩)), (88, .slice c.ua T.u.length c.uc), (89, .int .i64 (T.u.length : Int))] (fun q l' H' L' h => ?_) (by omega) rfl (.cons rfl (.cons rfl (.cons rfl (.nil _)))) ⟨none, [], [], rfl, rfl, MapC.nil, (KvTo.nil _)⟩ rfl rfl rfl rfl rfl (fun q l' H' L' hq le_27 hI => ?_) (fun l' H' L' le_28 hI => ?_)
    · obtain ⟨m, kvs, M, rfl, _⟩ := h; exact ⟨rfl, rfl, rfl, rfl⟩
    · skip
      obtain ⟨m, kvs, M, rfl, rfl, pq0, pq1⟩ := hI
      refine sr ?_
      obtain ⟨b_29, o_30, e_31, g_32⟩ := (hT.u.mono (le_7.trans (le_10.trans (le_26.trans le_27)))).at_ (ne_nil_of_lt hq)
      obtain ⟨c_33, q_34, q_35⟩ := g_32 q hq
      refine ix2 Try.runUnderlying37 Try.sizeOf63 rfl e_31 rfl rfl hq rfl ?_
      refine la (Says.fz q_34) Try.isAgg63 Try.sizeOf63 rfl (Nat.add_zero _).symm rfl rfl ?_
      refine al Try.zeroValue63 rfl rfl (fun b_36 => ?_)
      refine sa Try.sizeOf63 rfl rfl rfl rfl rfl .head ?_
      refine nl ?_
      refine rgD 8 (.keep (.skip (.keep .nil))) mixed ?_
      refine dT 0 rfl rfl rfl (by kernel_rfl) (fun _ _ _ h => h) (y_mv rfl) (.keep (.skip (.keep .nil))) (Fz.le.refl _) ?_
      refine dT 1 rfl rfl rfl (by kernel_rfl) (fun _ _ _ h => h) (y_nc rfl) (.keep (.skip (.keep .nil))) (Fz.le.refl _) ?_
      refine dT 2 rfl rfl rfl (by kernel_rfl) (fun _ _ _ h => h) (y_fa0 F113_9 rfl) (.keep (.skip (.keep .nil))) (Fz.le.refl _) ?_
      refine dT 3 rfl rfl rfl (by kernel_rfl) (fun _ _ _ h => h) (y_fa0 F63_0 rfl) (.keep (.skip (.keep .nil))) (Fz.le.refl _) ?_
      refine dT 4 rfl rfl rfl (by kernel_rfl) (fun _ _ _ h => h) (y_ld (Says.own .head) Try.isAgg60 rfl (Nat.zero_add _).symm rfl) (.keep (.skip (.keep .nil))) (Fz.le.refl _) ?_
      refine dT 5 rfl rfl rfl (by kernel_rfl) (fun _ _ _ h => h) (y_fa0 F63_1 rfl) (.keep (.skip (.keep .nil))) (Fz.le.refl _) ?_
      refine dT 6 rfl rfl rfl (by kernel_rfl) (fun _ _ _ h => h) (y_ld (Says.own .head) Try.isAgg22 rfl (Nat.zero_add _).symm rfl) (.keep (.skip (.keep .nil))) (Fz.le.refl _) ?_
      refine dE 7 (by kernel_rfl) rfl ?_
      refine tf (.tail (.tail (.tail .head))) ?_
      refine tf (.tail (.tail .head)) ?_
      refine cl rfl rfl rfl (t_set (cs := [.int .i16 ver, .string ⟨(T.at 0).s.toArray⟩, .int .i32 (IntKind.i32.wrap (T.at 1).n), .int .i32 (IntKind.i32.wrap (T.at 2).n), .string ⟨(T.at 3).s.toArray⟩, .pointer p4, .string ⟨(T.at 5).s.toArray⟩, .slice a6 (lT (T.at 6)).length c6, .pointer p7, .map m]) (off := 9) pq0 rfl) rfl (fun v H1 L1 hle hR => ?_)
      obtain ⟨rfl, g101, cs101, hs101, rfl⟩ := hR
      obtain rfl : [.int .i16 ver, .string ⟨(T.at 0).s.toArray⟩, .int .i32 (IntKind.i32.wrap (T.at 1).n), .int .i32 (IntKind.i32.wrap (T.at 2).n), .string ⟨(T.at 3).s.toArray⟩, .pointer p4, .string ⟨(T.at 5).s.toArray⟩, .slice a6 (lT (T.at 6)).length c6, .pointer p7, .map (some g101)] = cs101 := Option.some.inj hs101
      refine dN (.skip (.skip (.keep (.keep .nil)))) (Fz.le.refl _) ?_
      refine dD (by kernel_rfl) ?_
      refine Nb ?_
      refine drN (.tail (.tail .head)) ?_
      refine tfN (.tail .head) ?_
      refine tfN (.tail (.tail .head)) ?_
      refine tfN (.tail (.tail .head)) ?_
      refine fun a_ w_ hA hw => ⟨_, _, _, hA.sub ?_, le_27, hw, _, rfl, _, _, [(g101, _)], rfl, rfl, (.inr ⟨g101, rfl, rfl⟩), (KvTo.put hf.u (List.getElem?_eq_getElem hq) pq1 (⟨⟨_, _, rfl, q_35.val⟩, q_35.lo, q_35.hi⟩))⟩
      exact (.cons rfl (.cons rfl (.cons rfl (.cons rfl (.nil _)))))
    · skip
      obtain ⟨m, kvs, M, rfl, rfl, pq0, pq1⟩ := hI
      refine toNn ?_
      rw [List.take_length] at pq1
      refine frMN pq0 .head (fun H3 hle3 hmf => ?_)
      have hft := KvTo.at_ hf.u (pq1.mono hle3) hmf
      refine drN .head ?_
      exact fun _ _ hA hw => rn rfl (le_7.trans (le_10.trans (le_26.trans (le_28.trans hle3)))) ⟨_, rfl, ⟨p4, a6, c6, p7, m, rfl, (hf4.mono (le_10.trans (le_26.trans (le_28.trans hle3)))), (hf6.mono At_JoinGroupRequestProtocol.mono (le_26.trans (le_28.trans hle3))), (hf7.mono (le_28.trans hle3)), hft⟩⟩ hA hw
end Go.Sx

import Derived.Test.YtahmkeoedpghjaaBAlterClientQuotasResponse
import Derived.Test.YtahmkeoedpghjaaD0
import Derived.KernelRfl
set_option linter.unusedVariables false
set_option linter.unusedSimpArgs false
set_option maxRecDepth 100000
set_option maxHeartbeats 20000000
namespace Go.Sx
open Go.Proofs
theorem make_AlterClientQuotasResponseEntryEntity {H : Fz} {L : Own} {c : TC} {T : Tr} (hT : TreeAt H c T) (hf : Fine T) :
    Fn Try.prog 179 [.agg (c.cells T).toArray] H L (fun v H' L' => L = L' ∧ ∃ cs : List Value, v = .agg cs.toArray ∧ At_AlterClientQuotasResponseEntryEntity H' T cs) := by
  refine Fn.mk Try.call179 Try.func179 rfl Try.ntmps179 rfl ?_
  refine sr ?_
  refine bx rfl rfl rfl (fun b_1 => ?_)
  refine al Try.zeroValue166 rfl rfl (fun b_2 => ?_)
  refine nl ?_
  refine sr ?_
  refine al Try.zeroValue166 rfl rfl (fun b_3 => ?_)
  refine nl ?_
  refine sr ?_
  refine la (Says.own (.tail (.tail .head))) Try.isAgg39 Try.sizeOf39 rfl (Nat.zero_add _).symm rfl rfl ?_
  refine cl rfl rfl rfl (m_at (i := 0) hT) rfl (fun v H1 L1 hle hR => ?_)
  obtain ⟨rfl, rfl, c7, rfl, g7⟩ := hR
  refine fc C39_1 rfl rfl rfl ?_
  refine cbS Try.underlying22 Try.underlying5 Try.underlying9 rfl g7.s rfl rfl ?_
  refine fa0 F166_0 rfl rfl ?_
  refine st Try.sizeOf9 rfl rfl rfl rfl .head ?_
  refine nl ?_
  refine sr ?_
  refine la (Says.own (.tail (.tail .head))) Try.isAgg39 Try.sizeOf39 rfl (Nat.zero_add _).symm rfl rfl ?_
  refine cl rfl rfl rfl (m_at (i := 1) hT) rfl (fun v H1 L1 hle hR => ?_)
  obtain ⟨rfl, rfl, c12, rfl, g12⟩ := hR
  refine cl rfl rfl rfl (m_textOf g12) rfl (fun v H1 L1 le_6 hR => ?_)
  obtain ⟨rfl, p1, rfl, hf1⟩ := hR
  refine fa0 F166_1 rfl rfl ?_
  refine st Try.sizeOf51 rfl rfl rfl rfl .head ?_
  refine nl ?_
  refine sq ?_
  refine sr ?_
  refine fa0 F39_4 rfl rfl ?_
  refine ld (Says.own (.tail (.tail .head))) Try.isAgg37 rfl (Nat.zero_add _).symm rfl rfl ?_
  refine ls Try.runUnderlying37 rfl rfl ?_
  refine mv rfl rfl ?_
  refine nl ?_
  refine nulC2 ?_
  have hun := hf.un
  refine fr (T.u.length) (fun q l' H' L' => ∃ (m : Option Nat), ∃ (kvs : List KV), ∃ (M : Chunk), [(2, .pointer (some ⟨b_2, 0, none⟩)), (3, .pointer (some ⟨b_3, 0, none⟩)), (16, .slice c.ua T.u.length c.uc), (17, .int .i64 (T.u.length : Int))] = l' ∧ M :: [(b_3, .cells [.string ⟨(T.at 0).s.toArray⟩, .pointer p1, .map m].toArray 166 (0, 0))] :: [(b_2, .cells [.string ⟨#[]⟩, .pointer none, .map none].toArray 166 (0, 0))] :: [(b_1, .cells (c.cells T).toArray 39 (0, 0))] :: L = L' ∧ MapC m kvs M ∧ KvTo H' (T.u.take q) kvs) [(2, .pointer (some ⟨b_2, 0, none⟩)), (3, .pointer (some ⟨b_3, 0, none⟩)), (16, .slice c.ua T.u.length c.uc), (17, .int .i64 (T.u.length : Int))] (fun q l' H' L' h => ?_) (by omega) rfl (.cons rfl (.cons rfl (.cons rfl (.cons rfl (.nil _))))) ⟨none, [], [], rfl, rfl, MapC.nil, (KvTo.nil _)⟩ rfl rfl rfl rfl rfl (fun q l' H' L' hq le_7 hI => ?_) (fun l' H' L' le_8 hI => ?_)
  · obtain ⟨m, kvs, M, rfl, _⟩ := h; exact ⟨rfl, rfl, rfl, rfl⟩
  · skip
    obtain ⟨m, kvs, M, rfl, rfl, pq0, pq1⟩ := hI
    refine sr ?_
    obtain ⟨b_9, o_10, e_11, g_12⟩ := (hT.u.mono (le_6.trans le_7)).at_ (ne_nil_of_lt hq)
    obtain ⟨c_13, q_14, q_15⟩ := g_12 q hq
    refine ix2 Try.runUnderlying37 Try.sizeOf63 rfl e_11 rfl rfl hq rfl ?_
    refine la (Says.fz q_14) Try.isAgg63 Try.sizeOf63 rfl (Nat.add_zero _).symm rfl rfl ?_
    refine al Try.zeroValue63 rfl rfl (fun b_16 => ?_)
    refine sa Try.sizeOf63 rfl rfl rfl rfl rfl .head ?_
    refine nl ?_
    refine rg ?_
    refine fa0 F166_2 rfl rfl ?_
    refine fa0 F63_0 rfl rfl ?_
    refine ld (Says.own .head) Try.isAgg60 rfl (Nat.zero_add _).symm rfl rfl ?_
    refine fa0 F63_1 rfl rfl ?_
    refine ld (Says.own .head) Try.isAgg22 rfl (Nat.zero_add _).symm rfl rfl ?_
    refine tf (.tail (.tail .head)) ?_
    refine tf (.tail (.tail .head)) ?_
    refine cl rfl rfl rfl (t_set (cs := [.string ⟨(T.at 0).s.toArray⟩, .pointer p1, .map m]) (off := 2) pq0 rfl) rfl (fun v H1 L1 hle hR => ?_)
    obtain ⟨rfl, g27, cs27, hs27, rfl⟩ := hR
    obtain rfl : [.string ⟨(T.at 0).s.toArray⟩, .pointer p1, .map (some g27)] = cs27 := Option.some.inj hs27
    refine nN ?_
    refine Nb ?_
    refine drN (.tail (.tail .head)) ?_
    refine fun a_ w_ hA hw => ⟨_, _, _, hA.sub ?_, le_7, hw, _, rfl, _, _, [(g27, _)], rfl, rfl, (.inr ⟨g27, rfl, rfl⟩), (KvTo.put hf.u (List.getElem?_eq_getElem hq) pq1 (⟨⟨_, _, rfl, q_15.val⟩, q_15.lo, q_15.hi⟩))⟩
    exact (.cons rfl (.cons rfl (.cons rfl (.cons rfl (.cons rfl (.nil _))))))
  · skip
    obtain ⟨m, kvs, M, rfl, rfl, pq0, pq1⟩ := hI
    refine toWp ?_
    rw [List.take_length] at pq1
    refine frMW pq0 .head (fun H3 hle3 hmf => ?_)
    have hft := KvTo.at_ hf.u (pq1.mono hle3) hmf
    refine sr ?_
    refine la (Says.own .head) Try.isAgg166 Try.sizeOf166 rfl (Nat.zero_add _).symm rfl rfl ?_
    refine sa Try.sizeOf166 rfl rfl rfl rfl rfl (.tail .head) ?_
    refine nl ?_
    refine drW .head ?_
    refine drW (.tail .head) ?_
    exact rC rfl Try.isAgg166 Try.sizeOf166 rfl .head rfl (le_6.trans (le_8.trans hle3)) (fun _ _ h => h) ⟨rfl, _, rfl, ⟨p1, m, rfl, (hf1.mono (le_8.trans hle3)), hft⟩⟩
theorem make_AlterClientQuotasResponseEntry {H : Fz} {L : Own} {c : TC} {T : Tr} (hT : TreeAt H c T) (hf : Fine T) :
    Fn Try.prog 159 [.agg (c.cells T).toArray] H L (fun v H' L' => L = L' ∧ ∃ cs : List Value, v = .agg cs.toArray ∧ At_AlterClientQuotasResponseEntry H' T cs) := by
  refine Fn.mk Try.call159 Try.func159 rfl Try.ntmps159 rfl ?_
  refine sr ?_
  refine bx rfl rfl rfl (fun b_1 => ?_)
  refine al Try.zeroValue161 rfl rfl (fun b_2 => ?_)
  refine nl ?_
  refine sr ?_
  refine al Try.zeroValue161 rfl rfl (fun b_3 => ?_)
  refine nl ?_
  refine sr ?_
  refine la (Says.own (.tail (.tail .head))) Try.isAgg39 Try.sizeOf39 rfl (Nat.zero_add _).symm rfl rfl ?_
  refine cl rfl rfl rfl (m_at (i := 0) hT) rfl (fun v H1 L1 hle hR => ?_)
  obtain ⟨rfl, rfl, c9, rfl, g9⟩ := hR
  refine fc C39_0 rfl rfl rfl ?_
  refine cv Try.runUnderlying2 Try.runUnderlying45 rfl rfl rfl ?_
  refine fa0 F161_0 rfl rfl ?_
  refine st Try.sizeOf45 rfl rfl rfl rfl .head ?_
  refine nl ?_
  refine sr ?_
  refine la (Says.own (.tail (.tail .head))) Try.isAgg39 Try.sizeOf39 rfl (Nat.zero_add _).symm rfl rfl ?_
  refine cl rfl rfl rfl (m_at (i := 1) hT) rfl (fun v H1 L1 hle hR => ?_)
  obtain ⟨rfl, rfl, c14, rfl, g14⟩ := hR
  refine cl rfl rfl rfl (m_textOf g14) rfl (fun v H1 L1 le_6 hR => ?_)
  obtain ⟨rfl, p1, rfl, hf1⟩ := hR
  refine fa0 F161_1 rfl rfl ?_
  refine st Try.sizeOf51 rfl rfl rfl rfl .head ?_
  refine nl ?_
  refine sq ?_
  refine sr ?_
  refine la (Says.own (.tail (.tail .head))) Try.isAgg39 Try.sizeOf39 rfl (Nat.zero_add _).symm rfl rfl ?_
  refine cl rfl rfl rfl (m_at (i := 2) (hT.mono le_6)) rfl (fun v H1 L1 hle hR => ?_)
  obtain ⟨rfl, rfl, c18, rfl, g18⟩ := hR
  refine fc C39_2 rfl rfl rfl ?_
  refine nt rfl rfl ?_
  refine nl ?_
  refine cutT (fun l' H' L' => ∃ (a2 : Option Addr), ∃ (n2 : Nat), ∃ (c2 : Nat), [(1, .pointer (some ⟨b_1, 0, none⟩)), (2, .pointer (some ⟨b_2, 0, none⟩)), (3, .pointer (some ⟨b_3, 0, none⟩))] = l' ∧ [(b_3, .cells [.int .i16 (IntKind.i16.wrap (T.at 0).n), .pointer p1, .slice a2 n2 c2, .map none].toArray 161 (0, 0))] :: [(b_2, .cells [.int .i16 0, .pointer none, .slice none 0 0, .map none].toArray 161 (0, 0))] :: [(b_1, .cells (c.cells T).toArray 39 (0, 0))] :: L = L' ∧ n2 = (lT (T.at 2)).length ∧ ListAt H' (T.at 2) 3 At_AlterClientQuotasResponseEntryEntity a2 c2) ?_ (fun l' H' L' le_8 hI => ?_)
  · skip
    refine cb rfl (fun h20 => ?_) (fun h20 => ?_)
    · skip
      have hnu : (T.at 2).nul = false := by simpa using h20
      have hlt : lT (T.at 2) = (T.at 2).l := lT_not hnu
      have hfl := (hf.at 2).len
      refine sr ?_
      refine la (Says.own (.tail (.tail .head))) Try.isAgg39 Try.sizeOf39 rfl (Nat.zero_add _).symm rfl rfl ?_
      refine cl rfl rfl rfl (m_at (i := 2) (hT.mono le_6)) rfl (fun v H1 L1 hle hR => ?_)
      obtain ⟨rfl, rfl, c22, rfl, g22⟩ := hR
      refine fc C39_3 rfl rfl rfl ?_
      refine ls Try.runUnderlying36 rfl rfl ?_
      refine mks (m := 0) (c := (T.at 2).l.length) (zs := [.string ⟨#[]⟩, .pointer none, .map none]) Try.underlying159 I166 rfl rfl rfl rfl rfl (by omega) (by omega) (by unfold maxLen; omega) rfl (fun bm25 N25 r25 => ?_)
      refine fa0 F161_2 rfl rfl ?_
      refine st Try.sizeOf159 rfl rfl rfl rfl (.tail .head) ?_
      refine nl ?_
      refine sr ?_
      refine la (Says.own (.tail (.tail (.tail .head)))) Try.isAgg39 Try.sizeOf39 rfl (Nat.zero_add _).symm rfl rfl ?_
      refine cl rfl rfl rfl (m_at (i := 2) (hT.mono le_6)) rfl (fun v H1 L1 hle hR => ?_)
      obtain ⟨rfl, rfl, c28, rfl, g28⟩ := hR
      refine fc C39_3 rfl rfl rfl ?_
      refine ls Try.runUnderlying36 rfl rfl ?_
      refine mv rfl rfl ?_
      refine nl ?_
      refine fr ((T.at 2).l.length) (fun k l' H' L' => ∃ (a : Option Addr), ∃ (m : Nat), ∃ (c_ : Nat), ∃ (es : List (KE 3)), ∃ (N : Chunk), [(1, .pointer (some ⟨b_1, 0, none⟩)), (2, .pointer (some ⟨b_2, 0, none⟩)), (3, .pointer (some ⟨b_3, 0, none⟩)), (29, .slice c28.la (T.at 2).l.length c28.lc), (30, .int .i64 ((T.at 2).l.length : Int))] = l' ∧ N :: [(b_3, .cells [.int .i16 (IntKind.i16.wrap (T.at 0).n), .pointer p1, .slice a m c_, .map none].toArray 161 (0, 0))] :: [(b_2, .cells [.int .i16 0, .pointer none, .slice none 0 0, .map none].toArray 161 (0, 0))] :: [(b_1, .cells (c.cells T).toArray 39 (0, 0))] :: L = L' ∧ Row 166 3 a m c_ (es.flatMap fk) N ∧ m = es.length ∧ (∀ p : KE 3, p ∈ es → At_AlterClientQuotasResponseEntryEntity H' p.2 (fk p)) ∧ es.map (·.2) = ((T.at 2).l.take k).map id ∧ a.isNone = false) [(1, .pointer (some ⟨b_1, 0, none⟩)), (2, .pointer (some ⟨b_2, 0, none⟩)), (3, .pointer (some ⟨b_3, 0, none⟩)), (29, .slice c28.la (T.at 2).l.length c28.lc), (30, .int .i64 ((T.at 2).l.length : Int))] (fun k l' H' L' h => ?_) (by omega) rfl (.cons rfl (.cons rfl (.cons rfl (.cons rfl (.cons rfl (.nil _)))))) ⟨some ⟨bm25, 0, none⟩, 0, _, [], N25, rfl, rfl, r25, rfl, (fun p hp => by cases hp), (by simp), rfl⟩ rfl rfl rfl rfl rfl (fun k l' H' L' hk le_11 hI => ?_) (fun l' H' L' le_12 hI => ?_)
      · obtain ⟨a, m, c_, es, N, rfl, _⟩ := h; exact ⟨rfl, rfl, rfl, rfl⟩
      · skip
        obtain ⟨a, m, c_, es, N, rfl, rfl, pk0, pk1, pk2, pk3, pk4⟩ := hI
        refine sr ?_
        obtain ⟨b_13, o_14, e_15, g_16⟩ := (g28.l.mono le_11).at_ (ne_nil_of_lt hk)
        obtain ⟨c_17, q_18, q_19⟩ := g_16 k hk
        refine ix2 Try.runUnderlying36 Try.sizeOf39 rfl e_15 rfl rfl hk rfl ?_
        refine la (Says.fz q_18) Try.isAgg39 Try.sizeOf39 rfl (Nat.add_zero _).symm rfl rfl ?_
        refine al Try.zeroValue39 rfl rfl (fun b_20 => ?_)
        refine sa Try.sizeOf39 rfl rfl rfl rfl rfl .head ?_
        refine nl ?_
        refine rgD 7 (.keep (.skip (.keep (.keep (.keep .nil))))) mixed ?_
        refine dT 0 rfl rfl rfl (by kernel_rfl) (fun _ _ _ h => h) (y_fa0 F161_2 rfl) (.keep (.skip (.keep (.keep (.keep .nil))))) (Fz.le.refl _) ?_
        refine dT 1 rfl rfl rfl (by kernel_rfl) (fun _ _ _ h => h) (y_ld (Says.own (.tail .head)) Try.isAgg159 rfl (Nat.zero_add _).symm rfl) (.keep (.skip (.keep (.keep (.keep .nil))))) (Fz.le.refl _) ?_
        refine dT 2 rfl rfl rfl (by kernel_rfl) (fun _ _ _ h => h) (y_la (Says.own .head) Try.isAgg39 Try.sizeOf39 rfl (Nat.zero_add _).symm rfl) (.keep (.skip (.keep (.keep (.keep .nil))))) (Fz.le.refl _) ?_
        refine dE 3 (by kernel_rfl) rfl ?_
        refine cl rfl rfl rfl (make_AlterClientQuotasResponseEntryEntity q_19 ((hf.at 2).el (List.getElem_mem hk))) rfl (fun v H1 L1 le_21 hR => ?_)
        obtain ⟨rfl, cs38, rfl, g38⟩ := hR
        have ho38 := At_AlterClientQuotasResponseEntryEntity.ok g38
        have gg38 := g38
        obtain ⟨p1e, mte, rfl, he0, he1⟩ := g38
        refine dN (.keep (.skip (.keep (.keep (.keep .nil))))) le_21 ?_
        refine dE 4 (by kernel_rfl) rfl ?_
        refine bs' L159 rfl rfl rfl rfl (fun b_22 => ?_)
        refine dN (.skip (.keep (.skip (.keep (.keep (.keep .nil)))))) le_21 ?_
        refine dE 5 (by kernel_rfl) rfl ?_
        have hmk : m = k := by have h1 := congrArg List.length pk3; rw [List.length_map, List.length_map, List.length_take] at h1; omega
        refine ap (news := fk ((⟨_, ho38⟩, (T.at 2).l[k]) : KE 3)) Try.underlying159 I166 rfl rfl pk0 (fun _ => (.tail (.tail .head))) (src_says Try.underlying159 rfl (fun _ => Says.own .head) (fk_one _)) (by omega) (by unfold maxLen; omega) rfl (fun a40 c40 N40 r40 z40 => ?_)
        rw [flatMap_snoc'] at r40
        have hin : a40.isNone = false := by cases a40 with | none => have := z40.1 rfl; omega | some _ => rfl
        refine dN (.skip (.keep (.skip (.keep (.keep (.keep .nil)))))) le_21 ?_
        refine dT 6 rfl rfl rfl (by kernel_rfl) (fun _ _ _ h => h) (y_fa0 F161_2 rfl) (.skip (.keep (.skip (.keep (.keep (.keep .nil)))))) le_21 ?_
        refine dE 7 (by kernel_rfl) rfl ?_
        refine st Try.sizeOf159 rfl rfl rfl rfl (.tail (.tail (.tail .head))) ?_
        refine dNk (by kernel_rfl) ?_
        refine dD (by kernel_rfl) ?_
        refine Nb ?_
        refine drN .head ?_
        refine drN .head ?_
        refine fun a_ w_ hA hw => ⟨_, _, _, hA.sub ?_, (le_11.trans le_21), hw, _, rfl, a40, _, c40, (es ++ [((⟨_, ho38⟩, (T.at 2).l[k]) : KE 3)]), N40, rfl, rfl, r40, (by simp; omega), (fun p hp => (mem_snoc hp).elim (fun h => At_AlterClientQuotasResponseEntryEntity.mono _ _ _ _ le_21 (pk2 p h)) (fun h => h ▸ At_AlterClientQuotasResponseEntryEntity.mono _ _ _ _ (Fz.le.refl _) gg38)), (map_take_snoc hk pk3), hin⟩
        exact (.cons rfl (.cons rfl (.cons rfl (.cons rfl (.cons rfl (.cons rfl (.nil _)))))))
      · skip
        obtain ⟨a, m, c_, es, N, rfl, rfl, pk0, pk1, pk2, pk3, pk4⟩ := hI
        refine toNn ?_
        have hm : m = (T.at 2).l.length := by have h1 := congrArg List.length pk3; rw [List.length_map, List.length_map, List.take_length] at h1; omega
        have hfe : es.map (·.2) = (T.at 2).l := by rw [pk3, List.take_length, List.map_id]
        refine frN pk0 .head (fun H2 hle2 hfz => ?_)
        have hrw := RowsAt.row (R := At_AlterClientQuotasResponseEntryEntity) hfz pk1 pk0.le.1 (fun p hp => At_AlterClientQuotasResponseEntryEntity.mono _ _ _ _ hle2 (pk2 p hp))
        rw [hfe, ← hlt] at hrw
        have hnl : m = (lT (T.at 2)).length := by rw [hlt]; exact hm
        have hla : ListAt H2 (T.at 2) 3 At_AlterClientQuotasResponseEntryEntity a c_ := ⟨hrw, by rw [pk4, hnu]⟩
        refine fun a_ w_ hA hw => ⟨_, _, _, hA.sub ?_, (le_12.trans hle2), hw, a, m, c_, rfl, rfl, hnl, hla⟩
        exact (.cons rfl (.cons rfl (.cons rfl (.nil _))))
    · skip
      have hnu : (T.at 2).nul = true := by simpa using h20
      refine skN ?_
      refine fun a_ w_ hA hw => ⟨_, _, _, hA.sub ?_, (Fz.le.refl _), hw, none, 0, 0, rfl, rfl, (by rw [lT_nul hnu]; rfl), (ListAt.none hnu)⟩
      exact (.cons rfl (.cons rfl (.cons rfl (.nil _))))
  · skip
    obtain ⟨a2, n2, c2, rfl, rfl, pj0, pj1⟩ := hI
    subst pj0
    have hf2 := pj1
    refine sq ?_
    refine sr ?_
    refine fa0 F39_4 rfl rfl ?_
    refine ld (Says.own (.tail (.tail .head))) Try.isAgg37 rfl (Nat.zero_add _).symm rfl rfl ?_
    refine ls Try.runUnderlying37 rfl rfl ?_
    refine mv rfl rfl ?_
    refine nl ?_
    refine nulC2 ?_
    have hun := hf.un
    refine fr (T.u.length) (fun q l' H' L' => ∃ (m : Option Nat), ∃ (kvs : List KV), ∃ (M : Chunk), [(2, .pointer (some ⟨b_2, 0, none⟩)), (3, .pointer (some ⟨b_3, 0, none⟩)), (44, .slice c.ua T.u.length c.uc), (45, .int .i64 (T.u.length : Int))] = l' ∧ M :: [(b_3, .cells [.int .i16 (IntKind.i16.wrap (T.at 0).n), .pointer p1, .slice a2 (lT (T.at 2)).length c2, .map m].toArray 161 (0, 0))] :: [(b_2, .cells [.int .i16 0, .pointer none, .slice none 0 0, .map none].toArray 161 (0, 0))] :: [(b_1, .cells (c.cells T).toArray 39 (0, 0))] :: L = L' ∧ MapC m kvs M ∧ KvTo H' (T.u.take q) kvs) [(2, .pointer (some ⟨b_2, 0, none⟩)), (3, .pointer (some ⟨b_3, 0, none⟩)), (44, .slice c.ua T.u.length c.uc), (45, .int .i64 (T.u.length : Int))] (fun q l' H' L' h => ?_) (by omega) rfl (.cons rfl (.cons rfl (.cons rfl (.cons rfl (.nil _))))) ⟨none, [], [], rfl, rfl, MapC.nil, (KvTo.nil _)⟩ rfl rfl rfl rfl rfl (fun q l' H' L' hq le_23 hI => ?_) (fun l' H' L' le_24 hI => ?_)
    · obtain ⟨m, kvs, M, rfl, _⟩ := h; exact ⟨rfl, rfl, rfl, rfl⟩
    · skip
      obtain ⟨m, kvs, M, rfl, rfl, pq0, pq1⟩ := hI
      refine sr ?_
      obtain ⟨b_25, o_26, e_27, g_28⟩ := (hT.u.mono (le_6.trans (le_8.trans le_23))).at_ (ne_nil_of_lt hq)
      obtain ⟨c_29, q_30, q_31⟩ := g_28 q hq
      refine ix2 Try.runUnderlying37 Try.sizeOf63 rfl e_27 rfl rfl hq rfl ?_
      refine la (Says.fz q_30) Try.isAgg63 Try.sizeOf63 rfl (Nat.add_zero _).symm rfl rfl ?_
      refine al Try.zeroValue63 rfl rfl (fun b_32 => ?_)
      refine sa Try.sizeOf63 rfl rfl rfl rfl rfl .head ?_
      refine nl ?_
      refine rg ?_
      refine fa0 F161_3 rfl rfl ?_
      refine fa0 F63_0 rfl rfl ?_
      refine ld (Says.own .head) Try.isAgg60 rfl (Nat.zero_add _).symm rfl rfl ?_
      refine fa0 F63_1 rfl rfl ?_
      refine ld (Says.own .head) Try.isAgg22 rfl (Nat.zero_add _).symm rfl rfl ?_
      refine tf (.tail (.tail .head)) ?_
      refine tf (.tail (.tail .head)) ?_
      refine cl rfl rfl rfl (t_set (cs := [.int .i16 (IntKind.i16.wrap (T.at 0).n), .pointer p1, .slice a2 (lT (T.at 2)).length c2, .map m]) (off := 3) pq0 rfl) rfl (fun v H1 L1 hle hR => ?_)
      obtain ⟨rfl, g55, cs55, hs55, rfl⟩ := hR
      obtain rfl : [.int .i16 (IntKind.i16.wrap (T.at 0).n), .pointer p1, .slice a2 (lT (T.at 2)).length c2, .map (some g55)] = cs55 := Option.some.inj hs55
      refine nN ?_
      refine Nb ?_
      refine drN (.tail (.tail .head)) ?_
      refine fun a_ w_ hA hw => ⟨_, _, _, hA.sub ?_, le_23, hw, _, rfl, _, _, [(g55, _)], rfl, rfl, (.inr ⟨g55, rfl, rfl⟩), (KvTo.put hf.u (List.getElem?_eq_getElem hq) pq1 (⟨⟨_, _, rfl, q_31.val⟩, q_31.lo, q_31.hi⟩))⟩
      exact (.cons rfl (.cons rfl (.cons rfl (.cons rfl (.cons rfl (.nil _))))))
    · skip
      obtain ⟨m, kvs, M, rfl, rfl, pq0, pq1⟩ := hI
      refine toWp ?_
      rw [List.take_length] at pq1
      refine frMW pq0 .head (fun H3 hle3 hmf => ?_)
      have hft := KvTo.at_ hf.u (pq1.mono hle3) hmf
      refine sr ?_
      refine la (Says.own .head) Try.isAgg161 Try.sizeOf161 rfl (Nat.zero_add _).symm rfl rfl ?_
      refine sa Try.sizeOf161 rfl rfl rfl rfl rfl (.tail .head) ?_
      refine nl ?_
      refine drW .head ?_
      refine drW (.tail .head) ?_
      exact rC rfl Try.isAgg161 Try.sizeOf161 rfl .head rfl (le_6.trans (le_8.trans (le_24.trans hle3))) (fun _ _ h => h) ⟨rfl, _, rfl, ⟨p1, a2, c2, m, rfl, (hf1.mono (le_8.trans (le_24.trans hle3))), (hf2.mono At_AlterClientQuotasResponseEntryEntity.mono (le_24.trans hle3)), hft⟩⟩
theorem fill_AlterClientQuotasResponse {H : Fz} {L : Own} {b : Nat} {ver : Int} {c : TC} {T : Tr} (hT : TreeAt H c T) (hf : Fine T) :
    Fn Try.prog 99 [.pointer (some ⟨b, 0, none⟩), .agg (c.cells T).toArray] H ([(b, .cells [.int .i16 ver, .int .i32 0, .slice none 0 0, .map none].toArray 107 (0, 0))] :: L) (fun _ H' L' => ∃ cs : List Value, L' = [(b, .cells cs.toArray 107 (0, 0))] :: L ∧ At_AlterClientQuotasResponse ver H' T cs) := by
  refine Fn.mk Try.call99 Try.func99 rfl Try.ntmps99 rfl ?_
  refine sr ?_
  refine bx rfl rfl rfl (fun b_1 => ?_)
  refine nl ?_
  refine sr ?_
  refine mv rfl rfl ?_
  refine la (Says.own .head) Try.isAgg39 Try.sizeOf39 rfl (Nat.zero_add _).symm rfl rfl ?_
  refine cl rfl rfl rfl (m_at (i := 0) hT) rfl (fun v H1 L1 hle hR => ?_)
  obtain ⟨rfl, rfl, c10, rfl, g10⟩ := hR
  refine fc C39_0 rfl rfl rfl ?_
  refine cv Try.runUnderlying2 Try.runUnderlying21 rfl rfl rfl ?_
  refine nc rfl rfl ?_
  refine fa0 F107_1 rfl rfl ?_
  refine st Try.sizeOf21 rfl rfl rfl rfl (.tail .head) ?_
  refine nl ?_
  refine sq ?_
  refine sr ?_
  refine la (Says.own .head) Try.isAgg39 Try.sizeOf39 rfl (Nat.zero_add _).symm rfl rfl ?_
  refine cl rfl rfl rfl (m_at (i := 1) hT) rfl (fun v H1 L1 hle hR => ?_)
  obtain ⟨rfl, rfl, c16, rfl, g16⟩ := hR
  refine fc C39_2 rfl rfl rfl ?_
  refine nt rfl rfl ?_
  refine nl ?_
  refine cutT (fun l' H' L' => ∃ (a1 : Option Addr), ∃ (n1 : Nat), ∃ (c1 : Nat), [(0, .pointer (some ⟨b, 0, none⟩)), (3, .pointer (some ⟨b_1, 0, none⟩))] = l' ∧ [(b_1, .cells (c.cells T).toArray 39 (0, 0))] :: [(b, .cells [.int .i16 ver, .int .i32 (IntKind.i32.wrap (T.at 0).n), .slice a1 n1 c1, .map none].toArray 107 (0, 0))] :: L = L' ∧ n1 = (lT (T.at 1)).length ∧ ListAt H' (T.at 1) 4 At_AlterClientQuotasResponseEntry a1 c1) ?_ (fun l' H' L' le_4 hI => ?_)
  · skip
    refine cb rfl (fun h18 => ?_) (fun h18 => ?_)
    · skip
      have hnu : (T.at 1).nul = false := by simpa using h18
      have hlt : lT (T.at 1) = (T.at 1).l := lT_not hnu
      have hfl := (hf.at 1).len
      refine sr ?_
      refine mv rfl rfl ?_
      refine la (Says.own .head) Try.isAgg39 Try.sizeOf39 rfl (Nat.zero_add _).symm rfl rfl ?_
      refine cl rfl rfl rfl (m_at (i := 1) hT) rfl (fun v H1 L1 hle hR => ?_)
      obtain ⟨rfl, rfl, c21, rfl, g21⟩ := hR
      refine fc C39_3 rfl rfl rfl ?_
      refine ls Try.runUnderlying36 rfl rfl ?_
      refine mks (m := 0) (c := (T.at 1).l.length) (zs := [.int .i16 0, .pointer none, .slice none 0 0, .map none]) Try.underlying105 I161 rfl rfl rfl rfl rfl (by omega) (by omega) (by unfold maxLen; omega) rfl (fun bm24 N24 r24 => ?_)
      refine nc rfl rfl ?_
      refine fa0 F107_2 rfl rfl ?_
      refine st Try.sizeOf105 rfl rfl rfl rfl (.tail (.tail .head)) ?_
      refine nl ?_
      refine sr ?_
      refine la (Says.own (.tail .head)) Try.isAgg39 Try.sizeOf39 rfl (Nat.zero_add _).symm rfl rfl ?_
      refine cl rfl rfl rfl (m_at (i := 1) hT) rfl (fun v H1 L1 hle hR => ?_)
      obtain ⟨rfl, rfl, c28, rfl, g28⟩ := hR
      refine fc C39_3 rfl rfl rfl ?_
      refine ls Try.runUnderlying36 rfl rfl ?_
      refine mv rfl rfl ?_
      refine nl ?_
      refine fr ((T.at 1).l.length) (fun k l' H' L' => ∃ (a : Option Addr), ∃ (m : Nat), ∃ (c_ : Nat), ∃ (es : List (KE 4)), ∃ (N : Chunk), [(0, .pointer (some ⟨b, 0, none⟩)), (3, .pointer (some ⟨b_1, 0, none⟩)), (29, .slice c28.la (T.at 1).l.length c28.lc), (30, .int .i64 ((T.at 1).l.length : Int))] = l' ∧ N :: [(b_1, .cells (c.cells T).toArray 39 (0, 0))] :: [(b, .cells [.int .i16 ver, .int .i32 (IntKind.i32.wrap (T.at 0).n), .slice a m c_, .map none].toArray 107 (0, 0))] :: L = L' ∧ Row 161 4 a m c_ (es.flatMap fk) N ∧ m = es.length ∧ (∀ p : KE 4, p ∈ es → At_AlterClientQuotasResponseEntry H' p.2 (fk p)) ∧ es.map (·.2) = ((T.at 1).l.take k).map id ∧ a.isNone = false) [(0, .pointer (some ⟨b, 0, none⟩)), (3, .pointer (some ⟨b_1, 0, none⟩)), (29, .slice c28.la (T.at 1).l.length c28.lc), (30, .int .i64 ((T.at 1).l.length : Int))] (fun k l' H' L' h => ?_) (by omega) rfl (.cons rfl (.cons rfl (.cons rfl (.cons rfl (.nil _))))) ⟨some ⟨bm24, 0, none⟩, 0, _, [], N24, rfl, rfl, r24, rfl, (fun p hp => by cases hp), (by simp), rfl⟩ rfl rfl rfl rfl rfl (fun k l' H' L' hk le_7 hI => ?_) (fun l' H' L' le_8 hI => ?_)
      · obtain ⟨a, m, c_, es, N, rfl, _⟩ := h; exact ⟨rfl, rfl, rfl, rfl⟩
      · skip
        obtain ⟨a, m, c_, es, N, rfl, rfl, pk0, pk1, pk2, pk3, pk4⟩ := hI
        refine sr ?_
        obtain ⟨b_9, o_10, e_11, g_12⟩ := (g28.l.mono le_7).at_ (ne_nil_of_lt hk)
        obtain ⟨c_13, q_14, q_15⟩ := g_12 k hk
        refine ix2 Try.runUnderlying36 Try.sizeOf39 rfl e_11 rfl rfl hk rfl ?_
        refine la (Says.fz q_14) Try.isAgg39 Try.sizeOf39 rfl (Nat.add_zero _).symm rfl rfl ?_
        refine al Try.zeroValue39 rfl rfl (fun b_16 => ?_)
        refine sa Try.sizeOf39 rfl rfl rfl rfl rfl .head ?_
        refine nl ?_
        refine rgD 11 (.keep (.skip (.keep (.keep .nil)))) mixed ?_
        refine dT 0 rfl rfl rfl (by kernel_rfl) (fun _ _ _ h => h) (y_mv rfl) (.keep (.skip (.keep (.keep .nil)))) (Fz.le.refl _) ?_
        refine dT 1 rfl rfl rfl (by kernel_rfl) (fun _ _ _ h => h) (y_mv rfl) (.keep (.skip (.keep (.keep .nil)))) (Fz.le.refl _) ?_
        refine dT 2 rfl rfl rfl (by kernel_rfl) (fun _ _ _ h => h) (y_nc rfl) (.keep (.skip (.keep (.keep .nil)))) (Fz.le.refl _) ?_
        refine dT 3 rfl rfl rfl (by kernel_rfl) (fun _ _ _ h => h) (y_fa0 F107_2 rfl) (.keep (.skip (.keep (.keep .nil)))) (Fz.le.refl _) ?_
        refine dT 4 rfl rfl rfl (by kernel_rfl) (fun _ _ _ h => h) (y_ld (Says.own (.tail (.tail .head))) Try.isAgg105 rfl (Nat.zero_add _).symm rfl) (.keep (.skip (.keep (.keep .nil)))) (Fz.le.refl _) ?_
        refine dT 5 rfl rfl rfl (by kernel_rfl) (fun _ _ _ h => h) (y_la (Says.own .head) Try.isAgg39 Try.sizeOf39 rfl (Nat.zero_add _).symm rfl) (.keep (.skip (.keep (.keep .nil)))) (Fz.le.refl _) ?_
        refine dE 6 (by kernel_rfl) rfl ?_
        refine cl rfl rfl rfl (make_AlterClientQuotasResponseEntry q_15 ((hf.at 1).el (List.getElem_mem hk))) rfl (fun v H1 L1 le_17 hR => ?_)
        obtain ⟨rfl, cs41, rfl, g41⟩ := hR
        have ho41 := At_AlterClientQuotasResponseEntry.ok g41
        have gg41 := g41
        obtain ⟨p1e, a2e, c2e, mte, rfl, he0, he1, he2⟩ := g41
        refine dN (.keep (.skip (.keep (.keep .nil)))) le_17 ?_
        refine dE 7 (by kernel_rfl) rfl ?_
        refine bs' L105 rfl rfl rfl rfl (fun b_18 => ?_)
        refine dN (.skip (.keep (.skip (.keep (.keep .nil))))) le_17 ?_
        refine dE 8 (by kernel_rfl) rfl ?_
        have hmk : m = k := by have h1 := congrArg List.length pk3; rw [List.length_map, List.length_map, List.length_take] at h1; omega
        refine ap (news := fk ((⟨_, ho41⟩, (T.at 1).l[k]) : KE 4)) Try.underlying105 I161 rfl rfl pk0 (fun _ => (.tail (.tail .head))) (src_says Try.underlying105 rfl (fun _ => Says.own .head) (fk_one _)) (by omega) (by unfold maxLen; omega) rfl (fun a43 c43 N43 r43 z43 => ?_)
        rw [flatMap_snoc'] at r43
        have hin : a43.isNone = false := by cases a43 with | none => have := z43.1 rfl; omega | some _ => rfl
        refine dN (.skip (.keep (.skip (.keep (.keep .nil))))) le_17 ?_
        refine dE 9 (by kernel_rfl) rfl ?_
        refine nc rfl rfl ?_
        refine dN (.skip (.keep (.skip (.keep (.keep .nil))))) le_17 ?_
        refine dT 10 rfl rfl rfl (by kernel_rfl) (fun _ _ _ h => h) (y_fa0 F107_2 rfl) (.skip (.keep (.skip (.keep (.keep .nil))))) le_17 ?_
        refine dE 11 (by kernel_rfl) rfl ?_
        refine st Try.sizeOf105 rfl rfl rfl rfl (.tail (.tail (.tail (.tail .head)))) ?_
        refine dNk (by kernel_rfl) ?_
        refine dD (by kernel_rfl) ?_
        refine Nb ?_
        refine drN .head ?_
        refine drN .head ?_
        refine fun a_ w_ hA hw => ⟨_, _, _, hA.sub ?_, (le_7.trans le_17), hw, _, rfl, a43, _, c43, (es ++ [((⟨_, ho41⟩, (T.at 1).l[k]) : KE 4)]), N43, rfl, rfl, r43, (by simp; omega), (fun p hp => (mem_snoc hp).elim (fun h => At_AlterClientQuotasResponseEntry.mono _ _ _ _ le_17 (pk2 p h)) (fun h => h ▸ At_AlterClientQuotasResponseEntry.mono _ _ _ _ (Fz.le.refl _) gg41)), (map_take_snoc hk pk3), hin⟩
        exact (.cons rfl (.cons rfl (.cons rfl (.cons rfl (.cons rfl (.nil _))))))
      · skip
        obtain ⟨a, m, c_, es, N, rfl, rfl, pk0, pk1, pk2, pk3, pk4⟩ := hI
        refine toNn ?_
        have hm : m = (T.at 1).l.length := by have h1 := congrArg List.length pk3; rw [List.length_map, List.length_map, List.take_length] at h1; omega
        have hfe : es.map (·.2) = (T.at 1).l := by rw [pk3, List.take_length, List.map_id]
        refine frN pk0 .head (fun H2 hle2 hfz => ?_)
        have hrw := RowsAt.row (R := At_AlterClientQuotasResponseEntry) hfz pk1 pk0.le.1 (fun p hp => At_AlterClientQuotasResponseEntry.mono _ _ _ _ hle2 (pk2 p hp))
        rw [hfe, ← hlt] at hrw
        have hnl : m = (lT (T.at 1)).length := by rw [hlt]; exact hm
        have hla : ListAt H2 (T.at 1) 4 At_AlterClientQuotasResponseEntry a c_ := ⟨hrw, by rw [pk4, hnu]⟩
        refine fun a_ w_ hA hw => ⟨_, _, _, hA.sub ?_, (le_8.trans hle2), hw, a, m, c_, rfl, rfl, hnl, hla⟩
        exact (.cons rfl (.cons rfl (.nil _)))
    · skip
      have hnu : (T.at 1).nul = true := by simpa using h18
      refine skN ?_
      refine fun a_ w_ hA hw => ⟨_, _, _, hA.sub ?_, (Fz.le.refl _), hw, none, 0, 0, rfl, rfl, (by rw [lT_nul hnu]; rfl), (ListAt.none hnu)⟩
      exact (.cons rfl (.cons rfl (.nil _)))
  · skip
    obtain ⟨a1, n1, c1, rfl, rfl, pj0, pj1⟩ := hI
    subst pj0
    have hf1 := pj1
    refine sr ?_
    refine fa0 F39_4 rfl rfl ?_
    refine ld (Says.own .head) Try.isAgg37 rfl (Nat.zero_add _).symm rfl rfl ?_
    refine ls Try.runUnderlying37 rfl rfl ?_
    refine mv rfl rfl ?_
    refine nl ?_
    refine nulC2 ?_
    have hun := hf.un
    refine fr (T.u.length) (fun q l' H' L' => ∃ (m : Option Nat), ∃ (kvs : List KV), ∃ (M : Chunk), [(0, .pointer (some ⟨b, 0, none⟩)), (48, .slice c.ua T.u.length c.uc), (49, .int .i64 (T.u.length : Int))] = l' ∧ M :: [(b_1, .cells (c.cells T).toArray 39 (0, 0))] :: [(b, .cells [.int .i16 ver, .int .i32 (IntKind.i32.wrap (T.at 0).n), .slice a1 (lT (T.at 1)).length c1, .map m].toArray 107 (0, 0))] :: L = L' ∧ MapC m kvs M ∧ KvTo H' (T.u.take q) kvs) [(0, .pointer (some ⟨b, 0, none⟩)), (48, .slice c.ua T.u.length c.uc), (49, .int .i64 (T.u.length : Int))] (fun q l' H' L' h => ?_) (by omega) rfl (.cons rfl (.cons rfl (.cons rfl (.nil _)))) ⟨none, [], [], rfl, rfl, MapC.nil, (KvTo.nil _)⟩ rfl rfl rfl rfl rfl (fun q l' H' L' hq le_19 hI => ?_) (fun l' H' L' le_20 hI => ?_)
    · obtain ⟨m, kvs, M, rfl, _⟩ := h; exact ⟨rfl, rfl, rfl, rfl⟩
    · skip
      obtain ⟨m, kvs, M, rfl, rfl, pq0, pq1⟩ := hI
      refine sr ?_
      obtain ⟨b_21, o_22, e_23, g_24⟩ := (hT.u.mono (le_4.trans le_19)).at_ (ne_nil_of_lt hq)
      obtain ⟨c_25, q_26, q_27⟩ := g_24 q hq
      refine ix2 Try.runUnderlying37 Try.sizeOf63 rfl e_23 rfl rfl hq rfl ?_
      refine la (Says.fz q_26) Try.isAgg63 Try.sizeOf63 rfl (Nat.add_zero _).symm rfl rfl ?_
      refine al Try.zeroValue63 rfl rfl (fun b_28 => ?_)
      refine sa Try.sizeOf63 rfl rfl rfl rfl rfl .head ?_
      refine nl ?_
      refine rgD 8 (.keep (.skip (.keep .nil))) mixed ?_
      refine dT 0 rfl rfl rfl (by kernel_rfl) (fun _ _ _ h => h) (y_mv rfl) (.keep (.skip (.keep .nil))) (Fz.le.refl _) ?_
      refine dT 1 rfl rfl rfl (by kernel_rfl) (fun _ _ _ h => h) (y_nc rfl) (.keep (.skip (.keep .nil))) (Fz.le.refl _) ?_
      refine dT 2 rfl rfl rfl (by kernel_rfl) (fun _ _ _ h => h) (y_fa0 F107_3 rfl) (.keep (.skip (.keep .nil))) (Fz.le.refl _) ?_
      refine dT 3 rfl rfl rfl (by kernel_rfl) (fun _ _ _ h => h) (y_fa0 F63_0 rfl) (.keep (.skip (.keep .nil))) (Fz.le.refl _) ?_
      refine dT 4 rfl rfl rfl (by kernel_rfl) (fun _ _ _ h => h) (y_ld (Says.own .head) Try.isAgg60 rfl (Nat.zero_add _).symm rfl) (.keep (.skip (.keep .nil))) (Fz.le.refl _) ?_
      refine dT 5 rfl rfl rfl (by kernel_rfl) (fun _ _ _ h => h) (y_fa0 F63_1 rfl) (.keep (.skip (.keep .nil))) (Fz.le.refl _) ?_
      refine dT 6 rfl rfl rfl (by kernel_rfl) (fun _ _ _ h => h) (y_ld (Says.own .head) Try.isAgg22 rfl (Nat.zero_add _).symm rfl) (.keep (.skip (.keep .nil))) (Fz.le.refl _) ?_
      refine dE 7 (by kernel_rfl) rfl ?_
      refine tf (.tail (.tail (.tail .head))) ?_
      refine tf (.tail (.tail .head)) ?_
      refine cl rfl rfl rfl (t_set (cs := [.int .i16 ver, .int .i32 (IntKind.i32.wrap (T.at 0).n), .slice a1 (lT (T.at 1)).length c1, .map m]) (off := 3) pq0 rfl) rfl (fun v H1 L1 hle hR => ?_)
      obtain ⟨rfl, g61, cs61, hs61, rfl⟩ := hR
      obtain rfl : [.int .i16 ver, .int .i32 (IntKind.i32.wrap (T.at 0).n), .slice a1 (lT (T.at 1)).length c1, .map (some g61)] = cs61 := Option.some.inj hs61
      refine dN (.skip (.skip (.keep (.keep .nil)))) (Fz.le.refl _) ?_
      refine dD (by kernel_rfl) ?_
      refine Nb ?_
      refine drN (.tail (.tail .head)) ?_
      refine tfN (.tail .head) ?_
      refine tfN (.tail (.tail .head)) ?_
      refine tfN (.tail (.tail .head)) ?_
      refine fun a_ w_ hA hw => ⟨_, _, _, hA.sub ?_, le_19, hw, _, rfl, _, _, [(g61, _)], rfl, rfl, (.inr ⟨g61, rfl, rfl⟩), (KvTo.put hf.u (List.getElem?_eq_getElem hq) pq1 (⟨⟨_, _, rfl, q_27.val⟩, q_27.lo, q_27.hi⟩))⟩
      exact (.cons rfl (.cons rfl (.cons rfl (.cons rfl (.nil _)))))
    · skip
      obtain ⟨m, kvs, M, rfl, rfl, pq0, pq1⟩ := hI
      refine toNn ?_
      rw [List.take_length] at pq1
      refine frMN pq0 .head (fun H3 hle3 hmf => ?_)
      have hft := KvTo.at_ hf.u (pq1.mono hle3) hmf
      refine drN .head ?_
      exact fun _ _ hA hw => rn rfl (le_4.trans (le_20.trans hle3)) ⟨_, rfl, ⟨a1, c1, m, rfl, (hf1.mono At_AlterClientQuotasResponseEntry.mono (le_20.trans hle3)), hft⟩⟩ hA hw
end Go.Sx

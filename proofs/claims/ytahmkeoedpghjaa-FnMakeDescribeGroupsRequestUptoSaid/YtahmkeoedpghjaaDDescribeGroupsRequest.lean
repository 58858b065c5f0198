import Derived.Test.YtahmkeoedpghjaaBDescribeGroupsRequest
import Derived.Test.YtahmkeoedpghjaaD0
import Derived.KernelRfl
set_option linter.unusedVariables false
set_option linter.unusedSimpArgs false
set_option maxRecDepth 100000
set_option maxHeartbeats 20000000
namespace Go.Sx
open Go.Proofs
theorem fill_DescribeGroupsRequest {H : Fz} {L : Own} {b : Nat} {ver : Int} {c : TC} {T : Tr} (hT : TreeAt H c T) (hf : Fine T) :
    Fn Try.prog 72 [.pointer (some ⟨b, 0, none⟩), .agg (c.cells T).toArray] H ([(b, .cells [.int .i16 ver, .slice none 0 0, .bool false, .map none].toArray 76 (0, 0))] :: L) (fun _ H' L' => ∃ cs : List Value, L' = [(b, .cells cs.toArray 76 (0, 0))] :: L ∧ At_DescribeGroupsRequest ver H' T cs) := by
  refine Fn.mk Try.call72 Try.func72 rfl Try.ntmps72 rfl ?_
  refine sr ?_
  refine bx rfl rfl rfl (fun b_1 => ?_)
  refine nl ?_
  refine sq ?_
  refine sr ?_
  refine la (Says.own .head) Try.isAgg39 Try.sizeOf39 rfl (Nat.zero_add _).symm rfl rfl ?_
  refine cl rfl rfl rfl (m_at (i := 0) hT) rfl (fun v H1 L1 hle hR => ?_)
  obtain ⟨rfl, rfl, c9, rfl, g9⟩ := hR
  refine fc C39_2 rfl rfl rfl ?_
  refine nt rfl rfl ?_
  refine nl ?_
  refine cutT (fun l' H' L' => ∃ (a0 : Option Addr), ∃ (n0 : Nat), ∃ (c0 : Nat), [(0, .pointer (some ⟨b, 0, none⟩)), (3, .pointer (some ⟨b_1, 0, none⟩))] = l' ∧ [(b_1, .cells (c.cells T).toArray 39 (0, 0))] :: [(b, .cells [.int .i16 ver, .slice a0 n0 c0, .bool false, .map none].toArray 76 (0, 0))] :: L = L' ∧ n0 = (lT (T.at 0)).length ∧ ListAt H' (T.at 0) 1 RText a0 c0) ?_ (fun l' H' L' le_3 hI => ?_)
  · skip
    refine cb rfl (fun h11 => ?_) (fun h11 => ?_)
    · skip
      have hnu : (T.at 0).nul = false := by simpa using h11
      have hlt : lT (T.at 0) = (T.at 0).l := lT_not hnu
      have hfl := (hf.at 0).len
      refine sr ?_
      refine mv rfl rfl ?_
      refine la (Says.own .head) Try.isAgg39 Try.sizeOf39 rfl (Nat.zero_add _).symm rfl rfl ?_
      refine cl rfl rfl rfl (m_at (i := 0) hT) rfl (fun v H1 L1 hle hR => ?_)
      obtain ⟨rfl, rfl, c14, rfl, g14⟩ := hR
      refine fc C39_3 rfl rfl rfl ?_
      refine ls Try.runUnderlying36 rfl rfl ?_
      refine mks (m := 0) (c := (T.at 0).l.length) (zs := [.string ⟨#[]⟩]) Try.underlying74 I9 rfl rfl rfl rfl rfl (by omega) (by omega) (by unfold maxLen; omega) rfl (fun bm17 N17 r17 => ?_)
      refine nc rfl rfl ?_
      refine fa0 F76_1 rfl rfl ?_
      refine st Try.sizeOf74 rfl rfl rfl rfl (.tail (.tail .head)) ?_
      refine nl ?_
      refine sr ?_
      refine la (Says.own (.tail .head)) Try.isAgg39 Try.sizeOf39 rfl (Nat.zero_add _).symm rfl rfl ?_
      refine cl rfl rfl rfl (m_at (i := 0) hT) rfl (fun v H1 L1 hle hR => ?_)
      obtain ⟨rfl, rfl, c21, rfl, g21⟩ := hR
      refine fc C39_3 rfl rfl rfl ?_
      refine ls Try.runUnderlying36 rfl rfl ?_
      refine mv rfl rfl ?_
      refine nl ?_
      refine fr ((T.at 0).l.length) (fun k l' H' L' => ∃ (a : Option Addr), ∃ (m : Nat), ∃ (c_ : Nat), ∃ (es : List (KE 1)), ∃ (N : Chunk), [(0, .pointer (some ⟨b, 0, none⟩)), (3, .pointer (some ⟨b_1, 0, none⟩)), (22, .slice c21.la (T.at 0).l.length c21.lc), (23, .int .i64 ((T.at 0).l.length : Int))] = l' ∧ N :: [(b_1, .cells (c.cells T).toArray 39 (0, 0))] :: [(b, .cells [.int .i16 ver, .slice a m c_, .bool false, .map none].toArray 76 (0, 0))] :: L = L' ∧ Row 9 1 a m c_ (es.flatMap fk) N ∧ m = es.length ∧ (∀ p : KE 1, p ∈ es → RText H' p.2 (fk p)) ∧ es.map (·.2) = ((T.at 0).l.take k).map id ∧ a.isNone = false) [(0, .pointer (some ⟨b, 0, none⟩)), (3, .pointer (some ⟨b_1, 0, none⟩)), (22, .slice c21.la (T.at 0).l.length c21.lc), (23, .int .i64 ((T.at 0).l.length : Int))] (fun k l' H' L' h => ?_) (by omega) rfl (.cons rfl (.cons rfl (.cons rfl (.cons rfl (.nil _))))) ⟨some ⟨bm17, 0, none⟩, 0, _, [], N17, rfl, rfl, r17, rfl, (fun p hp => by cases hp), (by simp), rfl⟩ rfl rfl rfl rfl rfl (fun k l' H' L' hk le_6 hI => ?_) (fun l' H' L' le_7 hI => ?_)
      · obtain ⟨a, m, c_, es, N, rfl, _⟩ := h; exact ⟨rfl, rfl, rfl, rfl⟩
      · skip
        obtain ⟨a, m, c_, es, N, rfl, rfl, pk0, pk1, pk2, pk3, pk4⟩ := hI
        refine sr ?_
        obtain ⟨b_8, o_9, e_10, g_11⟩ := (g21.l.mono le_6).at_ (ne_nil_of_lt hk)
        obtain ⟨c_12, q_13, q_14⟩ := g_11 k hk
        refine ix2 Try.runUnderlying36 Try.sizeOf39 rfl e_10 rfl rfl hk rfl ?_
        refine la (Says.fz q_13) Try.isAgg39 Try.sizeOf39 rfl (Nat.add_zero _).symm rfl rfl ?_
        refine al Try.zeroValue39 rfl rfl (fun b_15 => ?_)
        refine sa Try.sizeOf39 rfl rfl rfl rfl rfl .head ?_
        refine nl ?_
        refine rgD 12 (.keep (.skip (.keep (.keep .nil)))) mixed ?_
        refine dT 0 rfl rfl rfl (by kernel_rfl) (fun _ _ _ h => h) (y_mv rfl) (.keep (.skip (.keep (.keep .nil)))) (Fz.le.refl _) ?_
        refine dT 1 rfl rfl rfl (by kernel_rfl) (fun _ _ _ h => h) (y_mv rfl) (.keep (.skip (.keep (.keep .nil)))) (Fz.le.refl _) ?_
        refine dT 2 rfl rfl rfl (by kernel_rfl) (fun _ _ _ h => h) (y_nc rfl) (.keep (.skip (.keep (.keep .nil)))) (Fz.le.refl _) ?_
        refine dT 3 rfl rfl rfl (by kernel_rfl) (fun _ _ _ h => h) (y_fa0 F76_1 rfl) (.keep (.skip (.keep (.keep .nil)))) (Fz.le.refl _) ?_
        refine dT 4 rfl rfl rfl (by kernel_rfl) (fun _ _ _ h => h) (y_ld (Says.own (.tail (.tail .head))) Try.isAgg74 rfl (Nat.zero_add _).symm rfl) (.keep (.skip (.keep (.keep .nil)))) (Fz.le.refl _) ?_
        refine dT 5 rfl rfl rfl (by kernel_rfl) (fun _ _ _ h => h) (y_fa0 F39_1 rfl) (.keep (.skip (.keep (.keep .nil)))) (Fz.le.refl _) ?_
        refine dT 6 rfl rfl rfl (by kernel_rfl) (fun _ _ _ h => h) (y_ld (Says.own .head) Try.isAgg22 rfl (Nat.zero_add _).symm rfl) (.keep (.skip (.keep (.keep .nil)))) (Fz.le.refl _) ?_
        refine dE 7 (by kernel_rfl) rfl ?_
        refine cbS Try.underlying22 Try.underlying5 Try.underlying9 rfl q_14.s rfl rfl ?_
        refine dN (.keep (.skip (.keep (.keep .nil)))) (Fz.le.refl _) ?_
        refine dE 8 (by kernel_rfl) rfl ?_
        refine bs' L74 rfl rfl rfl rfl (fun b_16 => ?_)
        refine dN (.skip (.keep (.skip (.keep (.keep .nil))))) (Fz.le.refl _) ?_
        refine dE 9 (by kernel_rfl) rfl ?_
        have hmk : m = k := by have h1 := congrArg List.length pk3; rw [List.length_map, List.length_map, List.length_take] at h1; omega
        refine ap (news := fk ((⟨[.string ⟨((T.at 0).l[k]).s.toArray⟩], rfl, by simp [Value.oneCell', u16, ub]⟩, (T.at 0).l[k]) : KE 1)) Try.underlying74 I9 rfl rfl pk0 (fun _ => (.tail (.tail .head))) (src_says Try.underlying74 rfl (fun _ => Says.own .head) (fk_one _)) (by omega) (by unfold maxLen; omega) rfl (fun a37 c37 N37 r37 z37 => ?_)
        rw [flatMap_snoc'] at r37
        have hin : a37.isNone = false := by cases a37 with | none => have := z37.1 rfl; omega | some _ => rfl
        refine dN (.skip (.keep (.skip (.keep (.keep .nil))))) (Fz.le.refl _) ?_
        refine dE 10 (by kernel_rfl) rfl ?_
        refine nc rfl rfl ?_
        refine dN (.skip (.keep (.skip (.keep (.keep .nil))))) (Fz.le.refl _) ?_
        refine dT 11 rfl rfl rfl (by kernel_rfl) (fun _ _ _ h => h) (y_fa0 F76_1 rfl) (.skip (.keep (.skip (.keep (.keep .nil))))) (Fz.le.refl _) ?_
        refine dE 12 (by kernel_rfl) rfl ?_
        refine st Try.sizeOf74 rfl rfl rfl rfl (.tail (.tail (.tail (.tail .head)))) ?_
        refine dNk (by kernel_rfl) ?_
        refine dD (by kernel_rfl) ?_
        refine Nb ?_
        refine drN .head ?_
        refine drN .head ?_
        refine fun a_ w_ hA hw => ⟨_, _, _, hA.sub ?_, le_6, hw, _, rfl, a37, _, c37, (es ++ [((⟨[.string ⟨((T.at 0).l[k]).s.toArray⟩], rfl, by simp [Value.oneCell', u16, ub]⟩, (T.at 0).l[k]) : KE 1)]), N37, rfl, rfl, r37, (by simp; omega), (fun p hp => (mem_snoc hp).elim (fun h => RText.mono _ _ _ _ (Fz.le.refl _) (pk2 p h)) (fun h => h ▸ RText.mono _ _ _ _ (Fz.le.refl _) (rfl : RText _ _ _))), (map_take_snoc hk pk3), hin⟩
        exact (.cons rfl (.cons rfl (.cons rfl (.cons rfl (.cons rfl (.nil _))))))
      · skip
        obtain ⟨a, m, c_, es, N, rfl, rfl, pk0, pk1, pk2, pk3, pk4⟩ := hI
        refine toNn ?_
        have hm : m = (T.at 0).l.length := by have h1 := congrArg List.length pk3; rw [List.length_map, List.length_map, List.take_length] at h1; omega
        have hfe : es.map (·.2) = (T.at 0).l := by rw [pk3, List.take_length, List.map_id]
        refine frN pk0 .head (fun H2 hle2 hfz => ?_)
        have hrw := RowsAt.row (R := RText) hfz pk1 pk0.le.1 (fun p hp => RText.mono _ _ _ _ hle2 (pk2 p hp))
        rw [hfe, ← hlt] at hrw
        have hnl : m = (lT (T.at 0)).length := by rw [hlt]; exact hm
        have hla : ListAt H2 (T.at 0) 1 RText a c_ := ⟨hrw, by rw [pk4, hnu]⟩
        refine fun a_ w_ hA hw => ⟨_, _, _, hA.sub ?_, (le_7.trans hle2), hw, a, m, c_, rfl, rfl, hnl, hla⟩
        exact (.cons rfl (.cons rfl (.nil _)))
    · skip
      have hnu : (T.at 0).nul = true := by simpa using h11
      refine skN ?_
      refine fun a_ w_ hA hw => ⟨_, _, _, hA.sub ?_, (Fz.le.refl _), hw, none, 0, 0, rfl, rfl, (by rw [lT_nul hnu]; rfl), (ListAt.none hnu)⟩
      exact (.cons rfl (.cons rfl (.nil _)))
  · skip
    obtain ⟨a0, n0, c0, rfl, rfl, pj0, pj1⟩ := hI
    subst pj0
    have hf0 := pj1
    refine sr ?_
    refine mv rfl rfl ?_
    refine la (Says.own .head) Try.isAgg39 Try.sizeOf39 rfl (Nat.zero_add _).symm rfl rfl ?_
    refine cl rfl rfl rfl (m_at (i := 1) (hT.mono le_3)) rfl (fun v H1 L1 hle hR => ?_)
    obtain ⟨rfl, rfl, c43, rfl, g43⟩ := hR
    refine fc C39_0 rfl rfl rfl ?_
    refine an rfl rfl (and1_i64 _) rfl ?_
    refine eq' rfl rfl rfl ?_
    refine nc rfl rfl ?_
    refine fa0 F76_2 rfl rfl ?_
    refine st Try.sizeOf4 rfl rfl rfl rfl (.tail .head) ?_
    refine nl ?_
    refine sr ?_
    refine fa0 F39_4 rfl rfl ?_
    refine ld (Says.own .head) Try.isAgg37 rfl (Nat.zero_add _).symm rfl rfl ?_
    refine ls Try.runUnderlying37 rfl rfl ?_
    refine mv rfl rfl ?_
    refine nl ?_
    refine nulC2 ?_
    have hun := hf.un
    refine fr (T.u.length) (fun q l' H' L' => ∃ (m : Option Nat), ∃ (kvs : List KV), ∃ (M : Chunk), [(0, .pointer (some ⟨b, 0, none⟩)), (50, .slice c.ua T.u.length c.uc), (51, .int .i64 (T.u.length : Int))] = l' ∧ M :: [(b_1, .cells (c.cells T).toArray 39 (0, 0))] :: [(b, .cells [.int .i16 ver, .slice a0 (lT (T.at 0)).length c0, .bool (decide ((T.at 1).n % 2 = 1)), .map m].toArray 76 (0, 0))] :: L = L' ∧ MapC m kvs M ∧ KvTo H' (T.u.take q) kvs) [(0, .pointer (some ⟨b, 0, none⟩)), (50, .slice c.ua T.u.length c.uc), (51, .int .i64 (T.u.length : Int))] (fun q l' H' L' h => ?_) (by omega) rfl (.cons rfl (.cons rfl (.cons rfl (.nil _)))) ⟨none, [], [], rfl, rfl, MapC.nil, (KvTo.nil _)⟩ rfl rfl rfl rfl rfl (fun q l' H' L' hq le_18 hI => ?_) (fun l' H' L' le_19 hI => ?_)
    · obtain ⟨m, kvs, M, rfl, _⟩ := h; exact ⟨rfl, rfl, rfl, rfl⟩
    · skip
      obtain ⟨m, kvs, M, rfl, rfl, pq0, pq1⟩ := hI
      refine sr ?_
      obtain ⟨b_20, o_21, e_22, g_23⟩ := (hT.u.mono (le_3.trans le_18)).at_ (ne_nil_of_lt hq)
      obtain ⟨c_24, q_25, q_26⟩ := g_23 q hq
      refine ix2 Try.runUnderlying37 Try.sizeOf63 rfl e_22 rfl rfl hq rfl ?_
      refine la (Says.fz q_25) Try.isAgg63 Try.sizeOf63 rfl (Nat.add_zero _).symm rfl rfl ?_
      refine al Try.zeroValue63 rfl rfl (fun b_27 => ?_)
      refine sa Try.sizeOf63 rfl rfl rfl rfl rfl .head ?_
      refine nl ?_
      refine rgD 8 (.keep (.skip (.keep .nil))) mixed ?_
      refine dT 0 rfl rfl rfl (by kernel_rfl) (fun _ _ _ h => h) (y_mv rfl) (.keep (.skip (.keep .nil))) (Fz.le.refl _) ?_
      refine dT 1 rfl rfl rfl (by kernel_rfl) (fun _ _ _ h => h) (y_nc rfl) (.keep (.skip (.keep .nil))) (Fz.le.refl _) ?_
      refine dT 2 rfl rfl rfl (by kernel_rfl) (fun _ _ _ h => h) (y_fa0 F76_3 rfl) (.keep (.skip (.keep .nil))) (Fz.le.refl _) ?_
      refine dT 3 rfl rfl rfl (by kernel_rfl) (fun _ _ _ h => h) (y_fa0 F63_0 rfl) (.keep (.skip (.keep .nil))) (Fz.le.refl _) ?_
      refine dT 4 rfl rfl rfl (by kernel_rfl) (fun _ _ _ h => h) (y_ld (Says.own .head) Try.isAgg60 rfl (Nat.zero_add _).symm rfl) (.keep (.skip (.keep .nil))) (Fz.le.refl _) ?_
      refine dT 5 rfl rfl rfl (by kernel_rfl) (fun _ _ _ h => h) (y_fa0 F63_1 rfl) (.keep (.skip (.keep .nil))) (Fz.le.refl _) ?_
      refine dT 6 rfl rfl rfl (by kernel_rfl) (fun _ _ _ h => h) (y_ld (Says.own .head) Try.isAgg22 rfl (Nat.zero_add _).symm rfl) (.keep (.skip (.keep .nil))) (Fz.le.refl _) ?_
      refine dE 7 (by kernel_rfl) rfl ?_
      refine tf (.tail (.tail (.tail .head))) ?_
      refine tf (.tail (.tail .head)) ?_
      refine cl rfl rfl rfl (t_set (cs := [.int .i16 ver, .slice a0 (lT (T.at 0)).length c0, .bool (decide ((T.at 1).n % 2 = 1)), .map m]) (off := 3) pq0 rfl) rfl (fun v H1 L1 hle hR => ?_)
      obtain ⟨rfl, g63, cs63, hs63, rfl⟩ := hR
      obtain rfl : [.int .i16 ver, .slice a0 (lT (T.at 0)).length c0, .bool (decide ((T.at 1).n % 2 = 1)), .map (some g63)] = cs63 := Option.some.inj hs63
      refine dN (.skip (.skip (.keep (.keep .nil)))) (Fz.le.refl _) ?_
      refine dD (by kernel_rfl) ?_
      refine Nb ?_
      refine drN (.tail (.tail .head)) ?_
      refine tfN (.tail .head) ?_
      refine tfN (.tail (.tail .head)) ?_
      refine tfN (.tail (.tail .head)) ?_
      refine fun a_ w_ hA hw => ⟨_, _, _, hA.sub ?_, le_18, hw, _, rfl, _, _, [(g63, _)], rfl, rfl, (.inr ⟨g63, rfl, rfl⟩), (KvTo.put hf.u (List.getElem?_eq_getElem hq) pq1 (⟨⟨_, _, rfl, q_26.val⟩, q_26.lo, q_26.hi⟩))⟩
      exact (.cons rfl (.cons rfl (.cons rfl (.cons rfl (.nil _)))))
    · skip
      obtain ⟨m, kvs, M, rfl, rfl, pq0, pq1⟩ := hI
      refine toNn ?_
      rw [List.take_length] at pq1
      refine frMN pq0 .head (fun H3 hle3 hmf => ?_)
      have hft := KvTo.at_ hf.u (pq1.mono hle3) hmf
      refine drN .head ?_
      exact fun _ _ hA hw => rn rfl (le_3.trans (le_19.trans hle3)) ⟨_, rfl, ⟨a0, c0, m, rfl, (hf0.mono RText.mono (le_19.trans hle3)), hft⟩⟩ hA hw
end Go.Sx

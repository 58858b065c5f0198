import Derived.Test.YtahmkeoedpghjaaBFindCoordinatorRequest
import Derived.Test.YtahmkeoedpghjaaD0
import Derived.KernelRfl
set_option linter.unusedVariables false
set_option linter.unusedSimpArgs false
set_option maxRecDepth 100000
set_option maxHeartbeats 20000000
namespace Go.Sx
open Go.Proofs
theorem fill_FindCoordinatorRequest {H : Fz} {L : Own} {b : Nat} {ver : Int} {c : TC} {T : Tr} (hT : TreeAt H c T) (hf : Fine T) :
    Fn Try.prog 77 [.pointer (some ⟨b, 0, none⟩), .agg (c.cells T).toArray] H ([(b, .cells [.int .i16 ver, .string ⟨#[]⟩, .int .i8 0, .slice none 0 0, .map none].toArray 82 (0, 0))] :: L) (fun _ H' L' => ∃ cs : List Value, L' = [(b, .cells cs.toArray 82 (0, 0))] :: L ∧ At_FindCoordinatorRequest ver H' T cs) := by
  refine Fn.mk Try.call77 Try.func77 rfl Try.ntmps77 rfl ?_
  refine sr ?_
  refine bx rfl rfl rfl (fun b_1 => ?_)
  refine nl ?_
  refine sr ?_
  refine mv rfl rfl ?_
  refine la (Says.own .head) Try.isAgg39 Try.sizeOf39 rfl (Nat.zero_add _).symm rfl rfl ?_
  refine cl rfl rfl rfl (m_at (i := 0) hT) rfl (fun v H1 L1 hle hR => ?_)
  obtain ⟨rfl, rfl, c10, rfl, g10⟩ := hR
  refine fc C39_1 rfl rfl rfl ?_
  refine cbS Try.underlying22 Try.underlying5 Try.underlying9 rfl g10.s rfl rfl ?_
  refine nc rfl rfl ?_
  refine fa0 F82_1 rfl rfl ?_
  refine st Try.sizeOf9 rfl rfl rfl rfl (.tail .head) ?_
  refine nl ?_
  refine sr ?_
  refine mv rfl rfl ?_
  refine la (Says.own .head) Try.isAgg39 Try.sizeOf39 rfl (Nat.zero_add _).symm rfl rfl ?_
  refine cl rfl rfl rfl (m_at (i := 1) hT) rfl (fun v H1 L1 hle hR => ?_)
  obtain ⟨rfl, rfl, c17, rfl, g17⟩ := hR
  refine fc C39_0 rfl rfl rfl ?_
  refine cv Try.runUnderlying2 Try.runUnderlying80 rfl rfl rfl ?_
  refine nc rfl rfl ?_
  refine fa0 F82_2 rfl rfl ?_
  refine st Try.sizeOf80 rfl rfl rfl rfl (.tail .head) ?_
  refine nl ?_
  refine sq ?_
  refine sr ?_
  refine la (Says.own .head) Try.isAgg39 Try.sizeOf39 rfl (Nat.zero_add _).symm rfl rfl ?_
  refine cl rfl rfl rfl (m_at (i := 2) hT) rfl (fun v H1 L1 hle hR => ?_)
  obtain ⟨rfl, rfl, c23, rfl, g23⟩ := hR
  refine fc C39_2 rfl rfl rfl ?_
  refine nt rfl rfl ?_
  refine nl ?_
  refine cutT (fun l' H' L' => ∃ (a2 : Option Addr), ∃ (n2 : Nat), ∃ (c2 : Nat), [(0, .pointer (some ⟨b, 0, none⟩)), (3, .pointer (some ⟨b_1, 0, none⟩))] = l' ∧ [(b_1, .cells (c.cells T).toArray 39 (0, 0))] :: [(b, .cells [.int .i16 ver, .string ⟨(T.at 0).s.toArray⟩, .int .i8 (IntKind.i8.wrap (T.at 1).n), .slice a2 n2 c2, .map none].toArray 82 (0, 0))] :: L = L' ∧ n2 = (lT (T.at 2)).length ∧ ListAt H' (T.at 2) 1 RText a2 c2) ?_ (fun l' H' L' le_5 hI => ?_)
  · skip
    refine cb rfl (fun h25 => ?_) (fun h25 => ?_)
    · skip
      have hnu : (T.at 2).nul = false := by simpa using h25
      have hlt : lT (T.at 2) = (T.at 2).l := lT_not hnu
      have hfl := (hf.at 2).len
      refine sr ?_
      refine mv rfl rfl ?_
      refine la (Says.own .head) Try.isAgg39 Try.sizeOf39 rfl (Nat.zero_add _).symm rfl rfl ?_
      refine cl rfl rfl rfl (m_at (i := 2) hT) rfl (fun v H1 L1 hle hR => ?_)
      obtain ⟨rfl, rfl, c28, rfl, g28⟩ := hR
      refine fc C39_3 rfl rfl rfl ?_
      refine ls Try.runUnderlying36 rfl rfl ?_
      refine mks (m := 0) (c := (T.at 2).l.length) (zs := [.string ⟨#[]⟩]) Try.underlying74 I9 rfl rfl rfl rfl rfl (by omega) (by omega) (by unfold maxLen; omega) rfl (fun bm31 N31 r31 => ?_)
      refine nc rfl rfl ?_
      refine fa0 F82_3 rfl rfl ?_
      refine st Try.sizeOf74 rfl rfl rfl rfl (.tail (.tail .head)) ?_
      refine nl ?_
      refine sr ?_
      refine la (Says.own (.tail .head)) Try.isAgg39 Try.sizeOf39 rfl (Nat.zero_add _).symm rfl rfl ?_
      refine cl rfl rfl rfl (m_at (i := 2) hT) rfl (fun v H1 L1 hle hR => ?_)
      obtain ⟨rfl, rfl, c35, rfl, g35⟩ := hR
      refine fc C39_3 rfl rfl rfl ?_
      refine ls Try.runUnderlying36 rfl rfl ?_
      refine mv rfl rfl ?_
      refine nl ?_
      refine fr ((T.at 2).l.length) (fun k l' H' L' => ∃ (a : Option Addr), ∃ (m : Nat), ∃ (c_ : Nat), ∃ (es : List (KE 1)), ∃ (N : Chunk), [(0, .pointer (some ⟨b, 0, none⟩)), (3, .pointer (some ⟨b_1, 0, none⟩)), (36, .slice c35.la (T.at 2).l.length c35.lc), (37, .int .i64 ((T.at 2).l.length : Int))] = l' ∧ N :: [(b_1, .cells (c.cells T).toArray 39 (0, 0))] :: [(b, .cells [.int .i16 ver, .string ⟨(T.at 0).s.toArray⟩, .int .i8 (IntKind.i8.wrap (T.at 1).n), .slice a m c_, .map none].toArray 82 (0, 0))] :: L = L' ∧ Row 9 1 a m c_ (es.flatMap fk) N ∧ m = es.length ∧ (∀ p : KE 1, p ∈ es → RText H' p.2 (fk p)) ∧ es.map (·.2) = ((T.at 2).l.take k).map id ∧ a.isNone = false) [(0, .pointer (some ⟨b, 0, none⟩)), (3, .pointer (some ⟨b_1, 0, none⟩)), (36, .slice c35.la (T.at 2).l.length c35.lc), (37, .int .i64 ((T.at 2).l.length : Int))] (fun k l' H' L' h => ?_) (by omega) rfl (.cons rfl (.cons rfl (.cons rfl (.cons rfl (.nil _))))) ⟨some ⟨bm31, 0, none⟩, 0, _, [], N31, rfl, rfl, r31, rfl, (fun p hp => by cases hp), (by simp), rfl⟩ rfl rfl rfl rfl rfl (fun k l' H' L' hk le_8 hI => ?_) (fun l' H' L' le_9 hI => ?_)
      · obtain ⟨a, m, c_, es, N, rfl, _⟩ := h; exact ⟨rfl, rfl, rfl, rfl⟩
      · skip
        obtain ⟨a, m, c_, es, N, rfl, rfl, pk0, pk1, pk2, pk3, pk4⟩ := hI
        refine sr ?_
        obtain ⟨b_10, o_11, e_12, g_13⟩ := (g35.l.mono le_8).at_ (ne_nil_of_lt hk)
        obtain ⟨c_14, q_15, q_16⟩ := g_13 k hk
        refine ix2 Try.runUnderlying36 Try.sizeOf39 rfl e_12 rfl rfl hk rfl ?_
        refine la (Says.fz q_15) Try.isAgg39 Try.sizeOf39 rfl (Nat.add_zero _).symm rfl rfl ?_
        refine al Try.zeroValue39 rfl rfl (fun b_17 => ?_)
        refine sa Try.sizeOf39 rfl rfl rfl rfl rfl .head ?_
        refine nl ?_
        refine rgD 12 (.keep (.skip (.keep (.keep .nil)))) mixed ?_
        refine dT 0 rfl rfl rfl (by kernel_rfl) (fun _ _ _ h => h) (y_mv rfl) (.keep (.skip (.keep (.keep .nil)))) (Fz.le.refl _) ?_
        refine dT 1 rfl rfl rfl (by kernel_rfl) (fun _ _ _ h => h) (y_mv rfl) (.keep (.skip (.keep (.keep .nil)))) (Fz.le.refl _) ?_
        refine dT 2 rfl rfl rfl (by kernel_rfl) (fun _ _ _ h => h) (y_nc rfl) (.keep (.skip (.keep (.keep .nil)))) (Fz.le.refl _) ?_
        refine dT 3 rfl rfl rfl (by kernel_rfl) (fun _ _ _ h => h) (y_fa0 F82_3 rfl) (.keep (.skip (.keep (.keep .nil)))) (Fz.le.refl _) ?_
        refine dT 4 rfl rfl rfl (by kernel_rfl) (fun _ _ _ h => h) (y_ld (Says.own (.tail (.tail .head))) Try.isAgg74 rfl (Nat.zero_add _).symm rfl) (.keep (.skip (.keep (.keep .nil)))) (Fz.le.refl _) ?_
        refine dT 5 rfl rfl rfl (by kernel_rfl) (fun _ _ _ h => h) (y_fa0 F39_1 rfl) (.keep (.skip (.keep (.keep .nil)))) (Fz.le.refl _) ?_
        refine dT 6 rfl rfl rfl (by kernel_rfl) (fun _ _ _ h => h) (y_ld (Says.own .head) Try.isAgg22 rfl (Nat.zero_add _).symm rfl) (.keep (.skip (.keep (.keep .nil)))) (Fz.le.refl _) ?_
        refine dE 7 (by kernel_rfl) rfl ?_
        refine cbS Try.underlying22 Try.underlying5 Try.underlying9 rfl q_16.s rfl rfl ?_
        refine dN (.keep (.skip (.keep (.keep .nil)))) (Fz.le.refl _) ?_
        refine dE 8 (by kernel_rfl) rfl ?_
        refine bs' L74 rfl rfl rfl rfl (fun b_18 => ?_)
        refine dN (.skip (.keep (.skip (.keep (.keep .nil))))) (Fz.le.refl _) ?_
        refine dE 9 (by kernel_rfl) rfl ?_
        have hmk : m = k := by have h1 := congrArg List.length pk3; rw [List.length_map, List.length_map, List.length_take] at h1; omega
        refine ap (news := fk ((⟨[.string ⟨((T.at 2).l[k]).s.toArray⟩], rfl, by simp [Value.oneCell', u16, ub]⟩, (T.at 2).l[k]) : KE 1)) Try.underlying74 I9 rfl rfl pk0 (fun _ => (.tail (.tail .head))) (src_says Try.underlying74 rfl (fun _ => Says.own .head) (fk_one _)) (by omega) (by unfold maxLen; omega) rfl (fun a51 c51 N51 r51 z51 => ?_)
        rw [flatMap_snoc'] at r51
        have hin : a51.isNone = false := by cases a51 with | none => have := z51.1 rfl; omega | some _ => rfl
        refine dN (.skip (.keep (.skip (.keep (.keep .nil))))) (Fz.le.refl _) ?_
        refine dE 10 (by kernel_rfl) rfl ?_
        refine nc rfl rfl ?_
        refine dN (.skip (.keep (.skip (.keep (.keep .nil))))) (Fz.le.refl _) ?_
        refine dT 11 rfl rfl rfl (by kernel_rfl) (fun _ _ _ h => h) (y_fa0 F82_3 rfl) (.skip (.keep (.skip (.keep (.keep .nil))))) (Fz.le.refl _) ?_
        refine dE 12 (by kernel_rfl) rfl ?_
        refine st Try.sizeOf74 rfl rfl rfl rfl (.tail (.tail (.tail (.tail .head)))) ?_
        refine dNk (by kernel_rfl) ?_
        refine dD (by kernel_rfl) ?_
        refine Nb ?_
        refine drN .head ?_
        refine drN .head ?_
        refine fun a_ w_ hA hw => ⟨_, _, _, hA.sub ?_, le_8, hw, _, rfl, a51, _, c51, (es ++ [((⟨[.string ⟨((T.at 2).l[k]).s.toArray⟩], rfl, by simp [Value.oneCell', u16, ub]⟩, (T.at 2).l[k]) : KE 1)]), N51, rfl, rfl, r51, (by simp; omega), (fun p hp => (mem_snoc hp).elim (fun h => RText.mono _ _ _ _ (Fz.le.refl _) (pk2 p h)) (fun h => h ▸ RText.mono _ _ _ _ (Fz.le.refl _) (rfl : RText _ _ _))), (map_take_snoc hk pk3), hin⟩
        exact (.cons rfl (.cons rfl (.cons rfl (.cons rfl (.cons rfl (.nil _))))))
      · skip
        obtain ⟨a, m, c_, es, N, rfl, rfl, pk0, pk1, pk2, pk3, pk4⟩ := hI
        refine toNn ?_
        have hm : m = (T.at 2).l.length := by have h1 := congrArg List.length pk3; rw [List.length_map, List.length_map, List.take_length] at h1; omega
        have hfe : es.map (·.2) = (T.at 2).l := by rw [pk3, List.take_length, List.map_id]
        refine frN pk0 .head (fun H2 hle2 hfz => ?_)
        have hrw := RowsAt.row (R := RText) hfz pk1 pk0.le.1 (fun p hp => RText.mono _ _ _ _ hle2 (pk2 p hp))
        rw [hfe, ← hlt] at hrw
        have hnl : m = (lT (T.at 2)).length := by rw [hlt]; exact hm
        have hla : ListAt H2 (T.at 2) 1 RText a c_ := ⟨hrw, by rw [pk4, hnu]⟩
        refine fun a_ w_ hA hw => ⟨_, _, _, hA.sub ?_, (le_9.trans hle2), hw, a, m, c_, rfl, rfl, hnl, hla⟩
        exact (.cons rfl (.cons rfl (.nil _)))
    · skip
      have hnu : (T.at 2).nul = true := by simpa using h25
      refine skN ?_
      refine fun a_ w_ hA hw => ⟨_, _, _, hA.sub ?_, (Fz.le.refl _), hw, none, 0, 0, rfl, rfl, (by rw [lT_nul hnu]; rfl), (ListAt.none hnu)⟩
      exact (.cons rfl (.cons rfl (.nil _)))
  · skip
    obtain ⟨a2, n2, c2, rfl, rfl, pj0, pj1⟩ := hI
    subst pj0
    have hf2 := pj1
    refine sr ?_
    refine fa0 F39_4 rfl rfl ?_
    refine ld (Says.own .head) Try.isAgg37 rfl (Nat.zero_add _).symm rfl rfl ?_
    refine ls Try.runUnderlying37 rfl rfl ?_
    refine mv rfl rfl ?_
    refine nl ?_
    refine nulC2 ?_
    have hun := hf.un
    refine fr (T.u.length) (fun q l' H' L' => ∃ (m : Option Nat), ∃ (kvs : List KV), ∃ (M : Chunk), [(0, .pointer (some ⟨b, 0, none⟩)), (56, .slice c.ua T.u.length c.uc), (57, .int .i64 (T.u.length : Int))] = l' ∧ M :: [(b_1, .cells (c.cells T).toArray 39 (0, 0))] :: [(b, .cells [.int .i16 ver, .string ⟨(T.at 0).s.toArray⟩, .int .i8 (IntKind.i8.wrap (T.at 1).n), .slice a2 (lT (T.at 2)).length c2, .map m].toArray 82 (0, 0))] :: L = L' ∧ MapC m kvs M ∧ KvTo H' (T.u.take q) kvs) [(0, .pointer (some ⟨b, 0, none⟩)), (56, .slice c.ua T.u.length c.uc), (57, .int .i64 (T.u.length : Int))] (fun q l' H' L' h => ?_) (by omega) rfl (.cons rfl (.cons rfl (.cons rfl (.nil _)))) ⟨none, [], [], rfl, rfl, MapC.nil, (KvTo.nil _)⟩ rfl rfl rfl rfl rfl (fun q l' H' L' hq le_19 hI => ?_) (fun l' H' L' le_20 hI => ?_)
    · obtain ⟨m, kvs, M, rfl, _⟩ := h; exact ⟨rfl, rfl, rfl, rfl⟩
    · skip
      obtain ⟨m, kvs, M, rfl, rfl, pq0, pq1⟩ := hI
      refine sr ?_
      obtain ⟨b_21, o_22, e_23, g_24⟩ := (hT.u.mono (le_5.trans le_19)).at_ (ne_nil_of_lt hq)
      obtain ⟨c_25, q_26, q_27⟩ := g_24 q hq
      refine ix2 Try.runUnderlying37 Try.sizeOf63 rfl e_23 rfl rfl hq rfl ?_
      refine la (Says.fz q_26) Try.isAgg63 Try.sizeOf63 rfl (Nat.add_zero _).symm rfl rfl ?_
      refine al Try.zeroValue63 rfl rfl (fun b_28 => ?_)
      refine sa Try.sizeOf63 rfl rfl rfl rfl rfl .head ?_
      refine nl ?_
      refine rgD 8 (.keep (.skip (.keep .nil))) mixed ?_
      refine dT 0 rfl rfl rfl (by kernel_rfl) (fun _ _ _ h => h) (y_mv rfl) (.keep (.skip (.keep .nil))) (Fz.le.refl _) ?_
      refine dT 1 rfl rfl rfl (by kernel_rfl) (fun _ _ _ h => h) (y_nc rfl) (.keep (.skip (.keep .nil))) (Fz.le.refl _) ?_
      refine dT 2 rfl rfl rfl (by kernel_rfl) (fun _ _ _ h => h) (y_fa0 F82_4 rfl) (.keep (.skip (.keep .nil))) (Fz.le.refl _) ?_
      refine dT 3 rfl rfl rfl (by kernel_rfl) (fun _ _ _ h => h) (y_fa0 F63_0 rfl) (.keep (.skip (.keep .nil))) (Fz.le.refl _) ?_
      refine dT 4 rfl rfl rfl (by kernel_rfl) (fun _ _ _ h => h) (y_ld (Says.own .head) Try.isAgg60 rfl (Nat.zero_add _).symm rfl) (.keep (.skip (.keep .nil))) (Fz.le.refl _) ?_
      refine dT 5 rfl rfl rfl (by kernel_rfl) (fun _ _ _ h => h) (y_fa0 F63_1 rfl) (.keep (.skip (.keep .nil))) (Fz.le.refl _) ?_
      refine dT 6 rfl rfl rfl (by kernel_rfl) (fun _ _ _ h => h) (y_ld (Says.own .head) Try.isAgg22 rfl (Nat.zero_add _).symm rfl) (.keep (.skip (.keep .nil))) (Fz.le.refl _) ?_
      refine dE 7 (by kernel_rfl) rfl ?_
      refine tf (.tail (.tail (.tail .head))) ?_
      refine tf (.tail (.tail .head)) ?_
      refine cl rfl rfl rfl (t_set (cs := [.int .i16 ver, .string ⟨(T.at 0).s.toArray⟩, .int .i8 (IntKind.i8.wrap (T.at 1).n), .slice a2 (lT (T.at 2)).length c2, .map m]) (off := 4) pq0 rfl) rfl (fun v H1 L1 hle hR => ?_)
      obtain ⟨rfl, g69, cs69, hs69, rfl⟩ := hR
      obtain rfl : [.int .i16 ver, .string ⟨(T.at 0).s.toArray⟩, .int .i8 (IntKind.i8.wrap (T.at 1).n), .slice a2 (lT (T.at 2)).length c2, .map (some g69)] = cs69 := Option.some.inj hs69
      refine dN (.skip (.skip (.keep (.keep .nil)))) (Fz.le.refl _) ?_
      refine dD (by kernel_rfl) ?_
      refine Nb ?_
      refine drN (.tail (.tail .head)) ?_
      refine tfN (.tail .head) ?_
      refine tfN (.tail (.tail .head)) ?_
      refine tfN (.tail (.tail .head)) ?_
      refine fun a_ w_ hA hw => ⟨_, _, _, hA.sub ?_, le_19, hw, _, rfl, _, _, [(g69, _)], rfl, rfl, (.inr ⟨g69, rfl, rfl⟩), (KvTo.put hf.u (List.getElem?_eq_getElem hq) pq1 (⟨⟨_, _, rfl, q_27.val⟩, q_27.lo, q_27.hi⟩))⟩
      exact (.cons rfl (.cons rfl (.cons rfl (.cons rfl (.nil _)))))
    · skip
      obtain ⟨m, kvs, M, rfl, rfl, pq0, pq1⟩ := hI
      refine toNn ?_
      rw [List.take_length] at pq1
      refine frMN pq0 .head (fun H3 hle3 hmf => ?_)
      have hft := KvTo.at_ hf.u (pq1.mono hle3) hmf
      refine drN .head ?_
      exact fun _ _ hA hw => rn rfl (le_5.trans (le_20.trans hle3)) ⟨_, rfl, ⟨a2, c2, m, rfl, (hf2.mono RText.mono (le_20.trans hle3)), hft⟩⟩ hA hw
end Go.Sx

import Derived.Test.YtahmkeoedpghjabGreatBStreamsGroupTopologyDescriptionUpdateRequest
import Derived.Test.YtahmkeoedpghjabGreatD0
import Derived.KernelRfl
set_option linter.unusedVariables false
set_option linter.unusedSimpArgs false
set_option maxRecDepth 100000
set_option maxHeartbeats 20000000
namespace Go.Sx
open Go.Proofs
theorem make_TopologyDescriptionNode {H : Fz} {L : Own} {c : TC} {T : Tr} (hT : TreeAt H c T) (hf : Fine T) :
    Fn Tryz.prog 146 [.agg (c.cells T).toArray] H L (fun v H' L' => L = L' ∧ ∃ cs : List Value, v = .agg cs.toArray ∧ At_TopologyDescriptionNode H' T cs) := by
  refine Fn.mk Tryz.call146 Tryz.func146 rfl Tryz.ntmps146 rfl ?_
  refine sr ?_
  refine bx rfl rfl rfl (fun b_1 => ?_)
  refine al Tryz.zeroValue144 rfl rfl (fun b_2 => ?_)
  refine nl ?_
  refine sr ?_
  refine al Tryz.zeroValue144 rfl rfl (fun b_3 => ?_)
  refine nl ?_
  refine sr ?_
  refine la (Says.own (.tail (.tail .head))) Tryz.isAgg39 Tryz.sizeOf39 rfl (Nat.zero_add _).symm rfl rfl ?_
  refine cl rfl rfl rfl (m_at (i := 0) hT) rfl (fun v H1 L1 hle hR => ?_)
  obtain ⟨rfl, rfl, c13, rfl, g13⟩ := hR
  refine fc C39_1 rfl rfl rfl ?_
  refine cbS Tryz.underlying22 Tryz.underlying5 Tryz.underlying9 rfl g13.s rfl rfl ?_
  refine fa0 F144_0 rfl rfl ?_
  refine st Tryz.sizeOf9 rfl rfl rfl rfl .head ?_
  refine nl ?_
  refine sr ?_
  refine la (Says.own (.tail (.tail .head))) Tryz.isAgg39 Tryz.sizeOf39 rfl (Nat.zero_add _).symm rfl rfl ?_
  refine cl rfl rfl rfl (m_at (i := 1) hT) rfl (fun v H1 L1 hle hR => ?_)
  obtain ⟨rfl, rfl, c18, rfl, g18⟩ := hR
  refine fc C39_0 rfl rfl rfl ?_
  refine cv Tryz.runUnderlying2 Tryz.runUnderlying141 rfl rfl rfl ?_
  refine fa0 F144_1 rfl rfl ?_
  refine st Tryz.sizeOf141 rfl rfl rfl rfl .head ?_
  refine nl ?_
  refine sq ?_
  refine sr ?_
  refine la (Says.own (.tail (.tail .head))) Tryz.isAgg39 Tryz.sizeOf39 rfl (Nat.zero_add _).symm rfl rfl ?_
  refine cl rfl rfl rfl (m_at (i := 2) hT) rfl (fun v H1 L1 hle hR => ?_)
  obtain ⟨rfl, rfl, c23, rfl, g23⟩ := hR
  refine fc C39_2 rfl rfl rfl ?_
  refine nt rfl rfl ?_
  refine nl ?_
  refine cutT (fun l' H' L' => ∃ (a2 : Option Addr), ∃ (n2 : Nat), ∃ (c2 : Nat), [(1, .pointer (some ⟨b_1, 0, none⟩)), (2, .pointer (some ⟨b_2, 0, none⟩)), (3, .pointer (some ⟨b_3, 0, none⟩))] = l' ∧ [(b_3, .cells [.string ⟨(T.at 0).s.toArray⟩, .int .i8 (IntKind.i8.wrap (T.at 1).n), .slice a2 n2 c2, .pointer none, .slice none 0 0, .slice none 0 0, .map none].toArray 144 (0, 0))] :: [(b_2, .cells [.string ⟨#[]⟩, .int .i8 0, .slice none 0 0, .pointer none, .slice none 0 0, .slice none 0 0, .map none].toArray 144 (0, 0))] :: [(b_1, .cells (c.cells T).toArray 39 (0, 0))] :: L = L' ∧ n2 = (lT (T.at 2)).length ∧ ListAt H' (T.at 2) 1 RText a2 c2) ?_ (fun l' H' L' le_7 hI => ?_)
  · skip
    refine cb rfl (fun h25 => ?_) (fun h25 => ?_)
    · skip
      have hnu : (T.at 2).nul = false := by simpa using h25
      have hlt : lT (T.at 2) = (T.at 2).l := lT_not hnu
      have hfl := (hf.at 2).len
      refine sr ?_
      refine la (Says.own (.tail (.tail .head))) Tryz.isAgg39 Tryz.sizeOf39 rfl (Nat.zero_add _).symm rfl rfl ?_
      refine cl rfl rfl rfl (m_at (i := 2) hT) rfl (fun v H1 L1 hle hR => ?_)
      obtain ⟨rfl, rfl, c27, rfl, g27⟩ := hR
      refine fc C39_3 rfl rfl rfl ?_
      refine ls Tryz.runUnderlying36 rfl rfl ?_
      refine mks (m := 0) (c := (T.at 2).l.length) (zs := [.string ⟨#[]⟩]) Tryz.underlying142 I9 rfl rfl rfl rfl rfl (by omega) (by omega) (by unfold maxLen; omega) rfl (fun bm30 N30 r30 => ?_)
      refine fa0 F144_2 rfl rfl ?_
      refine st Tryz.sizeOf142 rfl rfl rfl rfl (.tail .head) ?_
      refine nl ?_
      refine sr ?_
      refine la (Says.own (.tail (.tail (.tail .head)))) Tryz.isAgg39 Tryz.sizeOf39 rfl (Nat.zero_add _).symm rfl rfl ?_
      refine cl rfl rfl rfl (m_at (i := 2) hT) rfl (fun v H1 L1 hle hR => ?_)
      obtain ⟨rfl, rfl, c33, rfl, g33⟩ := hR
      refine fc C39_3 rfl rfl rfl ?_
      refine ls Tryz.runUnderlying36 rfl rfl ?_
      refine mv rfl rfl ?_
      refine nl ?_
      refine fr ((T.at 2).l.length) (fun k l' H' L' => ∃ (a : Option Addr), ∃ (m : Nat), ∃ (c_ : Nat), ∃ (es : List (KE 1)), ∃ (N : Chunk), [(1, .pointer (some ⟨b_1, 0, none⟩)), (2, .pointer (some ⟨b_2, 0, none⟩)), (3, .pointer (some ⟨b_3, 0, none⟩)), (34, .slice c33.la (T.at 2).l.length c33.lc), (35, .int .i64 ((T.at 2).l.length : Int))] = l' ∧ N :: [(b_3, .cells [.string ⟨(T.at 0).s.toArray⟩, .int .i8 (IntKind.i8.wrap (T.at 1).n), .slice a m c_, .pointer none, .slice none 0 0, .slice none 0 0, .map none].toArray 144 (0, 0))] :: [(b_2, .cells [.string ⟨#[]⟩, .int .i8 0, .slice none 0 0, .pointer none, .slice none 0 0, .slice none 0 0, .map none].toArray 144 (0, 0))] :: [(b_1, .cells (c.cells T).toArray 39 (0, 0))] :: L = L' ∧ Row 9 1 a m c_ (es.flatMap fk) N ∧ m = es.length ∧ (∀ p : KE 1, p ∈ es → RText H' p.2 (fk p)) ∧ es.map (·.2) = ((T.at 2).l.take k).map id ∧ a.isNone = false) [(1, .pointer (some ⟨b_1, 0, none⟩)), (2, .pointer (some ⟨b_2, 0, none⟩)), (3, .pointer (some ⟨b_3, 0, none⟩)), (34, .slice c33.la (T.at 2).l.length c33.lc), (35, .int .i64 ((T.at 2).l.length : Int))] (fun k l' H' L' h => ?_) (by omega) rfl (.cons rfl (.cons rfl (.cons rfl (.cons rfl (.cons rfl (.nil _)))))) ⟨some ⟨bm30, 0, none⟩, 0, _, [], N30, rfl, rfl, r30, rfl, (fun p hp => by cases hp), (by simp), rfl⟩ rfl rfl rfl rfl rfl (fun k l' H' L' hk le_10 hI => ?_) (fun l' H' L' le_11 hI => ?_)
      · obtain ⟨a, m, c_, es, N, rfl, _⟩ := h; exact ⟨rfl, rfl, rfl, rfl⟩
      · skip
        obtain ⟨a, m, c_, es, N, rfl, rfl, pk0, pk1, pk2, pk3, pk4⟩ := hI
        refine sr ?_
        obtain ⟨b_12, o_13, e_14, g_15⟩ := (g33.l.mono le_10).at_ (ne_nil_of_lt hk)
        obtain ⟨c_16, q_17, q_18⟩ := g_15 k hk
        refine ix2 Tryz.runUnderlying36 Tryz.sizeOf39 rfl e_14 rfl rfl hk rfl ?_
        refine la (Says.fz q_17) Tryz.isAgg39 Tryz.sizeOf39 rfl (Nat.add_zero _).symm rfl rfl ?_
        refine al Tryz.zeroValue39 rfl rfl (fun b_19 => ?_)
        refine sa Tryz.sizeOf39 rfl rfl rfl rfl rfl .head ?_
        refine nl ?_
        refine rg ?_
        refine fa0 F144_2 rfl rfl ?_
        refine ld (Says.own (.tail (.tail .head))) Tryz.isAgg142 rfl (Nat.zero_add _).symm rfl rfl ?_
        refine fa0 F39_1 rfl rfl ?_
        refine ld (Says.own .head) Tryz.isAgg22 rfl (Nat.zero_add _).symm rfl rfl ?_
        refine cbS Tryz.underlying22 Tryz.underlying5 Tryz.underlying9 rfl q_18.s rfl rfl ?_
        refine bs' L142 rfl rfl rfl rfl (fun b_20 => ?_)
        have hmk : m = k := by have h1 := congrArg List.length pk3; rw [List.length_map, List.length_map, List.length_take] at h1; omega
        refine ap (news := fk ((⟨[.string ⟨((T.at 2).l[k]).s.toArray⟩], rfl, by simp [Value.oneCell', u16, ub]⟩, (T.at 2).l[k]) : KE 1)) Tryz.underlying142 I9 rfl rfl pk0 (fun _ => (.tail (.tail .head))) (src_says Tryz.underlying142 rfl (fun _ => Says.own .head) (fk_one _)) (by omega) (by unfold maxLen; omega) rfl (fun a46 c46 N46 r46 z46 => ?_)
        rw [flatMap_snoc'] at r46
        have hin : a46.isNone = false := by cases a46 with | none => have := z46.1 rfl; omega | some _ => rfl
        refine fa0 F144_2 rfl rfl ?_
        refine st Tryz.sizeOf142 rfl rfl rfl rfl (.tail (.tail (.tail .head))) ?_
        refine nN ?_
        refine Nb ?_
        refine drN .head ?_
        refine drN .head ?_
        refine fun a_ w_ hA hw => ⟨_, _, _, hA.sub ?_, le_10, hw, _, rfl, a46, _, c46, (es ++ [((⟨[.string ⟨((T.at 2).l[k]).s.toArray⟩], rfl, by simp [Value.oneCell', u16, ub]⟩, (T.at 2).l[k]) : KE 1)]), N46, rfl, rfl, r46, (by simp; omega), (fun p hp => (mem_snoc hp).elim (fun h => RText.mono _ _ _ _ (Fz.le.refl _) (pk2 p h)) (fun h => h ▸ RText.mono _ _ _ _ (Fz.le.refl _) (rfl : RText _ _ _))), (map_take_snoc hk pk3), hin⟩
        exact (.cons rfl (.cons rfl (.cons rfl (.cons rfl (.cons rfl (.cons rfl (.nil _)))))))
      · skip
        obtain ⟨a, m, c_, es, N, rfl, rfl, pk0, pk1, pk2, pk3, pk4⟩ := hI
        refine toNn ?_
        have hm : m = (T.at 2).l.length := by have h1 := congrArg List.length pk3; rw [List.length_map, List.length_map, List.take_length] at h1; omega
        have hfe : es.map (·.2) = (T.at 2).l := by rw [pk3, List.take_length, List.map_id]
        refine frN pk0 .head (fun H2 hle2 hfz => ?_)
        have hrw := RowsAt.row (R := RText) hfz pk1 pk0.le.1 (fun p hp => RText.mono _ _ _ _ hle2 (pk2 p hp))
        rw [hfe, ← hlt] at hrw
        have hnl : m = (lT (T.at 2)).length := by rw [hlt]; exact hm
        have hla : ListAt H2 (T.at 2) 1 RText a c_ := ⟨hrw, by rw [pk4, hnu]⟩
        refine fun a_ w_ hA hw => ⟨_, _, _, hA.sub ?_, (le_11.trans hle2), hw, a, m, c_, rfl, rfl, hnl, hla⟩
        exact (.cons rfl (.cons rfl (.cons rfl (.nil _))))
    · skip
      have hnu : (T.at 2).nul = true := by simpa using h25
      refine skN ?_
      refine fun a_ w_ hA hw => ⟨_, _, _, hA.sub ?_, (Fz.le.refl _), hw, none, 0, 0, rfl, rfl, (by rw [lT_nul hnu]; rfl), (ListAt.none hnu)⟩
      exact (.cons rfl (.cons rfl (.cons rfl (.nil _))))
  · skip
    obtain ⟨a2, n2, c2, rfl, rfl, pj0, pj1⟩ := hI
    subst pj0
    have hf2 := pj1
    refine sr ?_
    refine la (Says.own (.tail (.tail .head))) Tryz.isAgg39 Tryz.sizeOf39 rfl (Nat.zero_add _).symm rfl rfl ?_
    refine cl rfl rfl rfl (m_at (i := 3) (hT.mono le_7)) rfl (fun v H1 L1 hle hR => ?_)
    obtain ⟨rfl, rfl, c50, rfl, g50⟩ := hR
    refine cl rfl rfl rfl (m_textOf g50) rfl (fun v H1 L1 le_22 hR => ?_)
    obtain ⟨rfl, p3, rfl, hf3⟩ := hR
    refine fa0 F144_3 rfl rfl ?_
    refine st Tryz.sizeOf110 rfl rfl rfl rfl .head ?_
    refine nl ?_
    refine sq ?_
    refine sr ?_
    refine la (Says.own (.tail (.tail .head))) Tryz.isAgg39 Tryz.sizeOf39 rfl (Nat.zero_add _).symm rfl rfl ?_
    refine cl rfl rfl rfl (m_at (i := 4) (hT.mono (le_7.trans le_22))) rfl (fun v H1 L1 hle hR => ?_)
    obtain ⟨rfl, rfl, c54, rfl, g54⟩ := hR
    refine fc C39_2 rfl rfl rfl ?_
    refine nt rfl rfl ?_
    refine nl ?_
    refine cutT (fun l' H' L' => ∃ (a4 : Option Addr), ∃ (n4 : Nat), ∃ (c4 : Nat), [(1, .pointer (some ⟨b_1, 0, none⟩)), (2, .pointer (some ⟨b_2, 0, none⟩)), (3, .pointer (some ⟨b_3, 0, none⟩))] = l' ∧ [(b_3, .cells [.string ⟨(T.at 0).s.toArray⟩, .int .i8 (IntKind.i8.wrap (T.at 1).n), .slice a2 (lT (T.at 2)).length c2, .pointer p3, .slice a4 n4 c4, .slice none 0 0, .map none].toArray 144 (0, 0))] :: [(b_2, .cells [.string ⟨#[]⟩, .int .i8 0, .slice none 0 0, .pointer none, .slice none 0 0, .slice none 0 0, .map none].toArray 144 (0, 0))] :: [(b_1, .cells (c.cells T).toArray 39 (0, 0))] :: L = L' ∧ n4 = (lT (T.at 4)).length ∧ ListAt H' (T.at 4) 1 RText a4 c4) ?_ (fun l' H' L' le_24 hI => ?_)
    · skip
      refine cb rfl (fun h56 => ?_) (fun h56 => ?_)
      · skip
        have hnu : (T.at 4).nul = false := by simpa using h56
        have hlt : lT (T.at 4) = (T.at 4).l := lT_not hnu
        have hfl := (hf.at 4).len
        refine sr ?_
        refine la (Says.own (.tail (.tail .head))) Tryz.isAgg39 Tryz.sizeOf39 rfl (Nat.zero_add _).symm rfl rfl ?_
        refine cl rfl rfl rfl (m_at (i := 4) (hT.mono (le_7.trans le_22))) rfl (fun v H1 L1 hle hR => ?_)
        obtain ⟨rfl, rfl, c58, rfl, g58⟩ := hR
        refine fc C39_3 rfl rfl rfl ?_
        refine ls Tryz.runUnderlying36 rfl rfl ?_
        refine mks (m := 0) (c := (T.at 4).l.length) (zs := [.string ⟨#[]⟩]) Tryz.underlying142 I9 rfl rfl rfl rfl rfl (by omega) (by omega) (by unfold maxLen; omega) rfl (fun bm61 N61 r61 => ?_)
        refine fa0 F144_4 rfl rfl ?_
        refine st Tryz.sizeOf142 rfl rfl rfl rfl (.tail .head) ?_
        refine nl ?_
        refine sr ?_
        refine la (Says.own (.tail (.tail (.tail .head)))) Tryz.isAgg39 Tryz.sizeOf39 rfl (Nat.zero_add _).symm rfl rfl ?_
        refine cl rfl rfl rfl (m_at (i := 4) (hT.mono (le_7.trans le_22))) rfl (fun v H1 L1 hle hR => ?_)
        obtain ⟨rfl, rfl, c64, rfl, g64⟩ := hR
        refine fc C39_3 rfl rfl rfl ?_
        refine ls Tryz.runUnderlying36 rfl rfl ?_
        refine mv rfl rfl ?_
        refine nl ?_
        refine fr ((T.at 4).l.length) (fun k l' H' L' => ∃ (a : Option Addr), ∃ (m : Nat), ∃ (c_ : Nat), ∃ (es : List (KE 1)), ∃ (N : Chunk), [(1, .pointer (some ⟨b_1, 0, none⟩)), (2, .pointer (some ⟨b_2, 0, none⟩)), (3, .pointer (some ⟨b_3, 0, none⟩)), (65, .slice c64.la (T.at 4).l.length c64.lc), (66, .int .i64 ((T.at 4).l.length : Int))] = l' ∧ N :: [(b_3, .cells [.string ⟨(T.at 0).s.toArray⟩, .int .i8 (IntKind.i8.wrap (T.at 1).n), .slice a2 (lT (T.at 2)).length c2, .pointer p3, .slice a m c_, .slice none 0 0, .map none].toArray 144 (0, 0))] :: [(b_2, .cells [.string ⟨#[]⟩, .int .i8 0, .slice none 0 0, .pointer none, .slice none 0 0, .slice none 0 0, .map none].toArray 144 (0, 0))] :: [(b_1, .cells (c.cells T).toArray 39 (0, 0))] :: L = L' ∧ Row 9 1 a m c_ (es.flatMap fk) N ∧ m = es.length ∧ (∀ p : KE 1, p ∈ es → RText H' p.2 (fk p)) ∧ es.map (·.2) = ((T.at 4).l.take k).map id ∧ a.isNone = false) [(1, .pointer (some ⟨b_1, 0, none⟩)), (2, .pointer (some ⟨b_2, 0, none⟩)), (3, .pointer (some ⟨b_3, 0, none⟩)), (65, .slice c64.la (T.at 4).l.length c64.lc), (66, .int .i64 ((T.at 4).l.length : Int))] (fun k l' H' L' h => ?_) (by omega) rfl (.cons rfl (.cons rfl (.cons rfl (.cons rfl (.cons rfl (.nil _)))))) ⟨some ⟨bm61, 0, none⟩, 0, _, [], N61, rfl, rfl, r61, rfl, (fun p hp => by cases hp), (by simp), rfl⟩ rfl rfl rfl rfl rfl (fun k l' H' L' hk le_27 hI => ?_) (fun l' H' L' le_28 hI => ?_)
        · obtain ⟨a, m, c_, es, N, rfl, _⟩ := h; exact ⟨rfl, rfl, rfl, rfl⟩
        · skip
          obtain ⟨a, m, c_, es, N, rfl, rfl, pk0, pk1, pk2, pk3, pk4⟩ := hI
          refine sr ?_
          obtain ⟨b_29, o_30, e_31, g_32⟩ := (g64.l.mono le_27).at_ (ne_nil_of_lt hk)
          obtain ⟨c_33, q_34, q_35⟩ := g_32 k hk
          refine ix2 Tryz.runUnderlying36 Tryz.sizeOf39 rfl e_31 rfl rfl hk rfl ?_
          refine la (Says.fz q_34) Tryz.isAgg39 Tryz.sizeOf39 rfl (Nat.add_zero _).symm rfl rfl ?_
          refine al Tryz.zeroValue39 rfl rfl (fun b_36 => ?_)
          refine sa Tryz.sizeOf39 rfl rfl rfl rfl rfl .head ?_
          refine nl ?_
          refine rg ?_
          refine fa0 F144_4 rfl rfl ?_
          refine ld (Says.own (.tail (.tail .head))) Tryz.isAgg142 rfl (Nat.zero_add _).symm rfl rfl ?_
          refine fa0 F39_1 rfl rfl ?_
          refine ld (Says.own .head) Tryz.isAgg22 rfl (Nat.zero_add _).symm rfl rfl ?_
          refine cbS Tryz.underlying22 Tryz.underlying5 Tryz.underlying9 rfl q_35.s rfl rfl ?_
          refine bs' L142 rfl rfl rfl rfl (fun b_37 => ?_)
          have hmk : m = k := by have h1 := congrArg List.length pk3; rw [List.length_map, List.length_map, List.length_take] at h1; omega
          refine ap (news := fk ((⟨[.string ⟨((T.at 4).l[k]).s.toArray⟩], rfl, by simp [Value.oneCell', u16, ub]⟩, (T.at 4).l[k]) : KE 1)) Tryz.underlying142 I9 rfl rfl pk0 (fun _ => (.tail (.tail .head))) (src_says Tryz.underlying142 rfl (fun _ => Says.own .head) (fk_one _)) (by omega) (by unfold maxLen; omega) rfl (fun a77 c77 N77 r77 z77 => ?_)
          rw [flatMap_snoc'] at r77
          have hin : a77.isNone = false := by cases a77 with | none => have := z77.1 rfl; omega | some _ => rfl
          refine fa0 F144_4 rfl rfl ?_
          refine st Tryz.sizeOf142 rfl rfl rfl rfl (.tail (.tail (.tail .head))) ?_
          refine nN ?_
          refine Nb ?_
          refine drN .head ?_
          refine drN .head ?_
          refine fun a_ w_ hA hw => ⟨_, _, _, hA.sub ?_, le_27, hw, _, rfl, a77, _, c77, (es ++ [((⟨[.string ⟨((T.at 4).l[k]).s.toArray⟩], rfl, by simp [Value.oneCell', u16, ub]⟩, (T.at 4).l[k]) : KE 1)]), N77, rfl, rfl, r77, (by simp; omega), (fun p hp => (mem_snoc hp).elim (fun h => RText.mono _ _ _ _ (Fz.le.refl _) (pk2 p h)) (fun h => h ▸ RText.mono _ _ _ _ (Fz.le.refl _) (rfl : RText _ _ _))), (map_take_snoc hk pk3), hin⟩
          exact (.cons rfl (.cons rfl (.cons rfl (.cons rfl (.cons rfl (.cons rfl (.nil _)))))))
        · skip
          obtain ⟨a, m, c_, es, N, rfl, rfl, pk0, pk1, pk2, pk3, pk4⟩ := hI
          refine toNn ?_
          have hm : m = (T.at 4).l.length := by have h1 := congrArg List.length pk3; rw [List.length_map, List.length_map, List.take_length] at h1; omega
          have hfe : es.map (·.2) = (T.at 4).l := by rw [pk3, List.take_length, List.map_id]
          refine frN pk0 .head (fun H2 hle2 hfz => ?_)
          have hrw := RowsAt.row (R := RText) hfz pk1 pk0.le.1 (fun p hp => RText.mono _ _ _ _ hle2 (pk2 p hp))
          rw [hfe, ← hlt] at hrw
          have hnl : m = (lT (T.at 4)).length := by rw [hlt]; exact hm
          have hla : ListAt H2 (T.at 4) 1 RText a c_ := ⟨hrw, by rw [pk4, hnu]⟩
          refine fun a_ w_ hA hw => ⟨_, _, _, hA.sub ?_, (le_28.trans hle2), hw, a, m, c_, rfl, rfl, hnl, hla⟩
          exact (.cons rfl (.cons rfl (.cons rfl (.nil _))))
      · skip
        have hnu : (T.at 4).nul = true := by simpa using h56
        refine skN ?_
        refine fun a_ w_ hA hw => ⟨_, _, _, hA.sub ?_, (Fz.le.refl _), hw, none, 0, 0, rfl, rfl, (by rw [lT_nul hnu]; rfl), (ListAt.none hnu)⟩
        exact (.cons rfl (.cons rfl (.cons rfl (.nil _))))
    · skip
      obtain ⟨a4, n4, c4, rfl, rfl, pj0, pj1⟩ := hI
      subst pj0
      have hf4 := pj1
      refine sq ?_
      refine sr ?_
      refine la (Says.own (.tail (.tail .head))) Tryz.isAgg39 Tryz.sizeOf39 rfl (Nat.zero_add _).symm rfl rfl ?_
      refine cl rfl rfl rfl (m_at (i := 5) (hT.mono (le_7.trans (le_22.trans le_24)))) rfl (fun v H1 L1 hle hR => ?_)
      obtain ⟨rfl, rfl, c81, rfl, g81⟩ := hR
      refine fc C39_2 rfl rfl rfl ?_
      refine nt rfl rfl ?_
      refine nl ?_
      refine cutT (fun l' H' L' => ∃ (a5 : Option Addr), ∃ (n5 : Nat), ∃ (c5 : Nat), [(1, .pointer (some ⟨b_1, 0, none⟩)), (2, .pointer (some ⟨b_2, 0, none⟩)), (3, .pointer (some ⟨b_3, 0, none⟩))] = l' ∧ [(b_3, .cells [.string ⟨(T.at 0).s.toArray⟩, .int .i8 (IntKind.i8.wrap (T.at 1).n), .slice a2 (lT (T.at 2)).length c2, .pointer p3, .slice a4 (lT (T.at 4)).length c4, .slice a5 n5 c5, .map none].toArray 144 (0, 0))] :: [(b_2, .cells [.string ⟨#[]⟩, .int .i8 0, .slice none 0 0, .pointer none, .slice none 0 0, .slice none 0 0, .map none].toArray 144 (0, 0))] :: [(b_1, .cells (c.cells T).toArray 39 (0, 0))] :: L = L' ∧ n5 = (lT (T.at 5)).length ∧ ListAt H' (T.at 5) 1 RText a5 c5) ?_ (fun l' H' L' le_39 hI => ?_)
      · skip
        refine cb rfl (fun h83 => ?_) (fun h83 => ?_)
        · skip
          have hnu : (T.at 5).nul = false := by simpa using h83
          have hlt : lT (T.at 5) = (T.at 5).l := lT_not hnu
          have hfl := (hf.at 5).len
          refine sr ?_
          refine la (Says.own (.tail (.tail .head))) Tryz.isAgg39 Tryz.sizeOf39 rfl (Nat.zero_add _).symm rfl rfl ?_
          refine cl rfl rfl rfl (m_at (i := 5) (hT.mono (le_7.trans (le_22.trans le_24)))) rfl (fun v H1 L1 hle hR => ?_)
          obtain ⟨rfl, rfl, c85, rfl, g85⟩ := hR
          refine fc C39_3 rfl rfl rfl ?_
          refine ls Tryz.runUnderlying36 rfl rfl ?_
          refine mks (m := 0) (c := (T.at 5).l.length) (zs := [.string ⟨#[]⟩]) Tryz.underlying142 I9 rfl rfl rfl rfl rfl (by omega) (by omega) (by unfold maxLen; omega) rfl (fun bm88 N88 r88 => ?_)
          refine fa0 F144_5 rfl rfl ?_
          refine st Tryz.sizeOf142 rfl rfl rfl rfl (.tail .head) ?_
          refine nl ?_
          refine sr ?_
          refine la (Says.own (.tail (.tail (.tail .head)))) Tryz.isAgg39 Tryz.sizeOf39 rfl (Nat.zero_add _).symm rfl rfl ?_
          refine cl rfl rfl rfl (m_at (i := 5) (hT.mono (le_7.trans (le_22.trans le_24)))) rfl (fun v H1 L1 hle hR => ?_)
          obtain ⟨rfl, rfl, c91, rfl, g91⟩ := hR
          refine fc C39_3 rfl rfl rfl ?_
          refine ls Tryz.runUnderlying36 rfl rfl ?_
          refine mv rfl rfl ?_
          refine nl ?_
          refine fr ((T.at 5).l.length) (fun k l' H' L' => ∃ (a : Option Addr), ∃ (m : Nat), ∃ (c_ : Nat), ∃ (es : List (KE 1)), ∃ (N : Chunk), [(1, .pointer (some ⟨b_1, 0, none⟩)), (2, .pointer (some ⟨b_2, 0, none⟩)), (3, .pointer (some ⟨b_3, 0, none⟩)), (92, .slice c91.la (T.at 5).l.length c91.lc), (93, .int .i64 ((T.at 5).l.length : Int))] = l' ∧ N :: [(b_3, .cells [.string ⟨(T.at 0).s.toArray⟩, .int .i8 (IntKind.i8.wrap (T.at 1).n), .slice a2 (lT (T.at 2)).length c2, .pointer p3, .slice a4 (lT (T.at 4)).length c4, .slice a m c_, .map none].toArray 144 (0, 0))] :: [(b_2, .cells [.string ⟨#[]⟩, .int .i8 0, .slice none 0 0, .pointer none, .slice none 0 0, .slice none 0 0, .map none].toArray 144 (0, 0))] :: [(b_1, .cells (c.cells T).toArray 39 (0, 0))] :: L = L' ∧ Row 9 1 a m c_ (es.flatMap fk) N ∧ m = es.length ∧ (∀ p : KE 1, p ∈ es → RText H' p.2 (fk p)) ∧ es.map (·.2) = ((T.at 5).l.take k).map id ∧ a.isNone = false) [(1, .pointer (some ⟨b_1, 0, none⟩)), (2, .pointer (some ⟨b_2, 0, none⟩)), (3, .pointer (some ⟨b_3, 0, none⟩)), (92, .slice c91.la (T.at 5).l.length c91.lc), (93, .int .i64 ((T.at 5).l.length : Int))] (fun k l' H' L' h => ?_) (by omega) rfl (.cons rfl (.cons rfl (.cons rfl (.cons rfl (.cons rfl (.nil _)))))) ⟨some ⟨bm88, 0, none⟩, 0, _, [], N88, rfl, rfl, r88, rfl, (fun p hp => by cases hp), (by simp), rfl⟩ rfl rfl rfl rfl rfl (fun k l' H' L' hk le_42 hI => ?_) (fun l' H' L' le_43 hI => ?_)
          · obtain ⟨a, m, c_, es, N, rfl, _⟩ := h; exact ⟨rfl, rfl, rfl, rfl⟩
          · skip
            obtain ⟨a, m, c_, es, N, rfl, rfl, pk0, pk1, pk2, pk3, pk4⟩ := hI
            refine sr ?_
            obtain ⟨b_44, o_45, e_46, g_47⟩ := (g91.l.mono le_42).at_ (ne_nil_of_lt hk)
            obtain ⟨c_48, q_49, q_50⟩ := g_47 k hk
            refine ix2 Tryz.runUnderlying36 Tryz.sizeOf39 rfl e_46 rfl rfl hk rfl ?_
            refine la (Says.fz q_49) Tryz.isAgg39 Tryz.sizeOf39 rfl (Nat.add_zero _).symm rfl rfl ?_
            refine al Tryz.zeroValue39 rfl rfl (fun b_51 => ?_)
            refine sa Tryz.sizeOf39 rfl rfl rfl rfl rfl .head ?_
            refine nl ?_
            refine rg ?_
            refine fa0 F144_5 rfl rfl ?_
            refine ld (Says.own (.tail (.tail .head))) Tryz.isAgg142 rfl (Nat.zero_add _).symm rfl rfl ?_
            refine fa0 F39_1 rfl rfl ?_
            refine ld (Says.own .head) Tryz.isAgg22 rfl (Nat.zero_add _).symm rfl rfl ?_
            refine cbS Tryz.underlying22 Tryz.underlying5 Tryz.underlying9 rfl q_50.s rfl rfl ?_
            refine bs' L142 rfl rfl rfl rfl (fun b_52 => ?_)
            have hmk : m = k := by have h1 := congrArg List.length pk3; rw [List.length_map, List.length_map, List.length_take] at h1; omega
            refine ap (news := fk ((⟨[.string ⟨((T.at 5).l[k]).s.toArray⟩], rfl, by simp [Value.oneCell', u16, ub]⟩, (T.at 5).l[k]) : KE 1)) Tryz.underlying142 I9 rfl rfl pk0 (fun _ => (.tail (.tail .head))) (src_says Tryz.underlying142 rfl (fun _ => Says.own .head) (fk_one _)) (by omega) (by unfold maxLen; omega) rfl (fun a104 c104 N104 r104 z104 => ?_)
            rw [flatMap_snoc'] at r104
            have hin : a104.isNone = false := by cases a104 with | none => have := z104.1 rfl; omega | some _ => rfl
            refine fa0 F144_5 rfl rfl ?_
            refine st Tryz.sizeOf142 rfl rfl rfl rfl (.tail (.tail (.tail .head))) ?_
            refine nN ?_
            refine Nb ?_
            refine drN .head ?_
            refine drN .head ?_
            refine fun a_ w_ hA hw => ⟨_, _, _, hA.sub ?_, le_42, hw, _, rfl, a104, _, c104, (es ++ [((⟨[.string ⟨((T.at 5).l[k]).s.toArray⟩], rfl, by simp [Value.oneCell', u16, ub]⟩, (T.at 5).l[k]) : KE 1)]), N104, rfl, rfl, r104, (by simp; omega), (fun p hp => (mem_snoc hp).elim (fun h => RText.mono _ _ _ _ (Fz.le.refl _) (pk2 p h)) (fun h => h ▸ RText.mono _ _ _ _ (Fz.le.refl _) (rfl : RText _ _ _))), (map_take_snoc hk pk3), hin⟩
            exact (.cons rfl (.cons rfl (.cons rfl (.cons rfl (.cons rfl (.cons rfl (.nil _)))))))
          · skip
            obtain ⟨a, m, c_, es, N, rfl, rfl, pk0, pk1, pk2, pk3, pk4⟩ := hI
            refine toNn ?_
            have hm : m = (T.at 5).l.length := by have h1 := congrArg List.length pk3; rw [List.length_map, List.length_map, List.take_length] at h1; omega
            have hfe : es.map (·.2) = (T.at 5).l := by rw [pk3, List.take_length, List.map_id]
            refine frN pk0 .head (fun H2 hle2 hfz => ?_)
            have hrw := RowsAt.row (R := RText) hfz pk1 pk0.le.1 (fun p hp => RText.mono _ _ _ _ hle2 (pk2 p hp))
            rw [hfe, ← hlt] at hrw
            have hnl : m = (lT (T.at 5)).length := by rw [hlt]; exact hm
            have hla : ListAt H2 (T.at 5) 1 RText a c_ := ⟨hrw, by rw [pk4, hnu]⟩
            refine fun a_ w_ hA hw => ⟨_, _, _, hA.sub ?_, (le_43.trans hle2), hw, a, m, c_, rfl, rfl, hnl, hla⟩
            exact (.cons rfl (.cons rfl (.cons rfl (.nil _))))
        · skip
          have hnu : (T.at 5).nul = true := by simpa using h83
          refine skN ?_
          refine fun a_ w_ hA hw => ⟨_, _, _, hA.sub ?_, (Fz.le.refl _), hw, none, 0, 0, rfl, rfl, (by rw [lT_nul hnu]; rfl), (ListAt.none hnu)⟩
          exact (.cons rfl (.cons rfl (.cons rfl (.nil _))))
      · skip
        obtain ⟨a5, n5, c5, rfl, rfl, pj0, pj1⟩ := hI
        subst pj0
        have hf5 := pj1
        refine sq ?_
        refine sr ?_
        refine fa0 F39_4 rfl rfl ?_
        refine ld (Says.own (.tail (.tail .head))) Tryz.isAgg37 rfl (Nat.zero_add _).symm rfl rfl ?_
        refine ls Tryz.runUnderlying37 rfl rfl ?_
        refine mv rfl rfl ?_
        refine nl ?_
        refine nulC2 ?_
        have hun := hf.un
        refine fr (T.u.length) (fun q l' H' L' => ∃ (m : Option Nat), ∃ (kvs : List KV), ∃ (M : Chunk), [(2, .pointer (some ⟨b_2, 0, none⟩)), (3, .pointer (some ⟨b_3, 0, none⟩)), (108, .slice c.ua T.u.length c.uc), (109, .int .i64 (T.u.length : Int))] = l' ∧ M :: [(b_3, .cells [.string ⟨(T.at 0).s.toArray⟩, .int .i8 (IntKind.i8.wrap (T.at 1).n), .slice a2 (lT (T.at 2)).length c2, .pointer p3, .slice a4 (lT (T.at 4)).length c4, .slice a5 (lT (T.at 5)).length c5, .map m].toArray 144 (0, 0))] :: [(b_2, .cells [.string ⟨#[]⟩, .int .i8 0, .slice none 0 0, .pointer none, .slice none 0 0, .slice none 0 0, .map none].toArray 144 (0, 0))] :: [(b_1, .cells (c.cells T).toArray 39 (0, 0))] :: L = L' ∧ MapC m kvs M ∧ KvTo H' (T.u.take q) kvs) [(2, .pointer (some ⟨b_2, 0, none⟩)), (3, .pointer (some ⟨b_3, 0, none⟩)), (108, .slice c.ua T.u.length c.uc), (109, .int .i64 (T.u.length : Int))] (fun q l' H' L' h => ?_) (by omega) rfl (.cons rfl (.cons rfl (.cons rfl (.cons rfl (.nil _))))) ⟨none, [], [], rfl, rfl, MapC.nil, (KvTo.nil _)⟩ rfl rfl rfl rfl rfl (fun q l' H' L' hq le_53 hI => ?_) (fun l' H' L' le_54 hI => ?_)
        · obtain ⟨m, kvs, M, rfl, _⟩ := h; exact ⟨rfl, rfl, rfl, rfl⟩
        · skip
          obtain ⟨m, kvs, M, rfl, rfl, pq0, pq1⟩ := hI
          refine sr ?_
          obtain ⟨b_55, o_56, e_57, g_58⟩ := (hT.u.mono (le_7.trans (le_22.trans (le_24.trans (le_39.trans le_53))))).at_ (ne_nil_of_lt hq)
          obtain ⟨c_59, q_60, q_61⟩ := g_58 q hq
          refine ix2 Tryz.runUnderlying37 Tryz.sizeOf65 rfl e_57 rfl rfl hq rfl ?_
          refine la (Says.fz q_60) Tryz.isAgg65 Tryz.sizeOf65 rfl (Nat.add_zero _).symm rfl rfl ?_
          refine al Tryz.zeroValue65 rfl rfl (fun b_62 => ?_)
          refine sa Tryz.sizeOf65 rfl rfl rfl rfl rfl .head ?_
          refine nl ?_
          refine rg ?_
          refine fa0 F144_6 rfl rfl ?_
          refine fa0 F65_0 rfl rfl ?_
          refine ld (Says.own .head) Tryz.isAgg62 rfl (Nat.zero_add _).symm rfl rfl ?_
          refine fa0 F65_1 rfl rfl ?_
          refine ld (Says.own .head) Tryz.isAgg22 rfl (Nat.zero_add _).symm rfl rfl ?_
          refine tf (.tail (.tail .head)) ?_
          refine tf (.tail (.tail .head)) ?_
          refine cl rfl rfl rfl (t_set (cs := [.string ⟨(T.at 0).s.toArray⟩, .int .i8 (IntKind.i8.wrap (T.at 1).n), .slice a2 (lT (T.at 2)).length c2, .pointer p3, .slice a4 (lT (T.at 4)).length c4, .slice a5 (lT (T.at 5)).length c5, .map m]) (off := 6) pq0 rfl) rfl (fun v H1 L1 hle hR => ?_)
          obtain ⟨rfl, g119, cs119, hs119, rfl⟩ := hR
          obtain rfl : [.string ⟨(T.at 0).s.toArray⟩, .int .i8 (IntKind.i8.wrap (T.at 1).n), .slice a2 (lT (T.at 2)).length c2, .pointer p3, .slice a4 (lT (T.at 4)).length c4, .slice a5 (lT (T.at 5)).length c5, .map (some g119)] = cs119 := Option.some.inj hs119
          refine nN ?_
          refine Nb ?_
          refine drN (.tail (.tail .head)) ?_
          refine fun a_ w_ hA hw => ⟨_, _, _, hA.sub ?_, le_53, hw, _, rfl, _, _, [(g119, _)], rfl, rfl, (.inr ⟨g119, rfl, rfl⟩), (KvTo.put hf.u (List.getElem?_eq_getElem hq) pq1 (⟨⟨_, _, rfl, q_61.val⟩, q_61.lo, q_61.hi⟩))⟩
          exact (.cons rfl (.cons rfl (.cons rfl (.cons rfl (.cons rfl (.nil _))))))
        · skip
          obtain ⟨m, kvs, M, rfl, rfl, pq0, pq1⟩ := hI
          refine toWp ?_
          rw [List.take_length] at pq1
          refine frMW pq0 .head (fun H3 hle3 hmf => ?_)
          have hft := KvTo.at_ hf.u (pq1.mono hle3) hmf
          refine sr ?_
          refine la (Says.own .head) Tryz.isAgg144 Tryz.sizeOf144 rfl (Nat.zero_add _).symm rfl rfl ?_
          refine sa Tryz.sizeOf144 rfl rfl rfl rfl rfl (.tail .head) ?_
          refine nl ?_
          refine drW .head ?_
          refine drW (.tail .head) ?_
          exact rC rfl Tryz.isAgg144 Tryz.sizeOf144 rfl .head rfl (le_7.trans (le_22.trans (le_24.trans (le_39.trans (le_54.trans hle3))))) (fun _ _ h => h) ⟨rfl, _, rfl, ⟨a2, c2, p3, a4, c4, a5, c5, m, rfl, (hf2.mono RText.mono (le_22.trans (le_24.trans (le_39.trans (le_54.trans hle3))))), (hf3.mono (le_24.trans (le_39.trans (le_54.trans hle3)))), (hf4.mono RText.mono (le_39.trans (le_54.trans hle3))), (hf5.mono RText.mono (le_54.trans hle3)), hft⟩⟩
theorem make_TopologyDescriptionSubtopology {H : Fz} {L : Own} {c : TC} {T : Tr} (hT : TreeAt H c T) (hf : Fine T) :
    Fn Tryz.prog 129 [.agg (c.cells T).toArray] H L (fun v H' L' => L = L' ∧ ∃ cs : List Value, v = .agg cs.toArray ∧ At_TopologyDescriptionSubtopology H' T cs) := by
  refine Fn.mk Tryz.call129 Tryz.func129 rfl Tryz.ntmps129 rfl ?_
  refine sr ?_
  refine bx rfl rfl rfl (fun b_1 => ?_)
  refine al Tryz.zeroValue139 rfl rfl (fun b_2 => ?_)
  refine nl ?_
  refine sr ?_
  refine al Tryz.zeroValue139 rfl rfl (fun b_3 => ?_)
  refine nl ?_
  refine sr ?_
  refine la (Says.own (.tail (.tail .head))) Tryz.isAgg39 Tryz.sizeOf39 rfl (Nat.zero_add _).symm rfl rfl ?_
  refine cl rfl rfl rfl (m_at (i := 0) hT) rfl (fun v H1 L1 hle hR => ?_)
  obtain ⟨rfl, rfl, c9, rfl, g9⟩ := hR
  refine fc C39_1 rfl rfl rfl ?_
  refine cbS Tryz.underlying22 Tryz.underlying5 Tryz.underlying9 rfl g9.s rfl rfl ?_
  refine fa0 F139_0 rfl rfl ?_
  refine st Tryz.sizeOf9 rfl rfl rfl rfl .head ?_
  refine nl ?_
  refine sq ?_
  refine sr ?_
  refine la (Says.own (.tail (.tail .head))) Tryz.isAgg39 Tryz.sizeOf39 rfl (Nat.zero_add _).symm rfl rfl ?_
  refine cl rfl rfl rfl (m_at (i := 1) hT) rfl (fun v H1 L1 hle hR => ?_)
  obtain ⟨rfl, rfl, c14, rfl, g14⟩ := hR
  refine fc C39_2 rfl rfl rfl ?_
  refine nt rfl rfl ?_
  refine nl ?_
  refine cutT (fun l' H' L' => ∃ (a1 : Option Addr), ∃ (n1 : Nat), ∃ (c1 : Nat), [(1, .pointer (some ⟨b_1, 0, none⟩)), (2, .pointer (some ⟨b_2, 0, none⟩)), (3, .pointer (some ⟨b_3, 0, none⟩))] = l' ∧ [(b_3, .cells [.string ⟨(T.at 0).s.toArray⟩, .slice a1 n1 c1, .map none].toArray 139 (0, 0))] :: [(b_2, .cells [.string ⟨#[]⟩, .slice none 0 0, .map none].toArray 139 (0, 0))] :: [(b_1, .cells (c.cells T).toArray 39 (0, 0))] :: L = L' ∧ n1 = (lT (T.at 1)).length ∧ ListAt H' (T.at 1) 7 At_TopologyDescriptionNode a1 c1) ?_ (fun l' H' L' le_6 hI => ?_)
  · skip
    refine cb rfl (fun h16 => ?_) (fun h16 => ?_)
    · skip
      have hnu : (T.at 1).nul = false := by simpa using h16
      have hlt : lT (T.at 1) = (T.at 1).l := lT_not hnu
      have hfl := (hf.at 1).len
      refine sr ?_
      refine la (Says.own (.tail (.tail .head))) Tryz.isAgg39 Tryz.sizeOf39 rfl (Nat.zero_add _).symm rfl rfl ?_
      refine cl rfl rfl rfl (m_at (i := 1) hT) rfl (fun v H1 L1 hle hR => ?_)
      obtain ⟨rfl, rfl, c18, rfl, g18⟩ := hR
      refine fc C39_3 rfl rfl rfl ?_
      refine ls Tryz.runUnderlying36 rfl rfl ?_
      refine mks (m := 0) (c := (T.at 1).l.length) (zs := [.string ⟨#[]⟩, .int .i8 0, .slice none 0 0, .pointer none, .slice none 0 0, .slice none 0 0, .map none]) Tryz.underlying137 I144 rfl rfl rfl rfl rfl (by omega) (by omega) (by unfold maxLen; omega) rfl (fun bm21 N21 r21 => ?_)
      refine fa0 F139_1 rfl rfl ?_
      refine st Tryz.sizeOf137 rfl rfl rfl rfl (.tail .head) ?_
      refine nl ?_
      refine sr ?_
      refine la (Says.own (.tail (.tail (.tail .head)))) Tryz.isAgg39 Tryz.sizeOf39 rfl (Nat.zero_add _).symm rfl rfl ?_
      refine cl rfl rfl rfl (m_at (i := 1) hT) rfl (fun v H1 L1 hle hR => ?_)
      obtain ⟨rfl, rfl, c24, rfl, g24⟩ := hR
      refine fc C39_3 rfl rfl rfl ?_
      refine ls Tryz.runUnderlying36 rfl rfl ?_
      refine mv rfl rfl ?_
      refine nl ?_
      refine fr ((T.at 1).l.length) (fun k l' H' L' => ∃ (a : Option Addr), ∃ (m : Nat), ∃ (c_ : Nat), ∃ (es : List (KE 7)), ∃ (N : Chunk), [(1, .pointer (some ⟨b_1, 0, none⟩)), (2, .pointer (some ⟨b_2, 0, none⟩)), (3, .pointer (some ⟨b_3, 0, none⟩)), (25, .slice c24.la (T.at 1).l.length c24.lc), (26, .int .i64 ((T.at 1).l.length : Int))] = l' ∧ N :: [(b_3, .cells [.string ⟨(T.at 0).s.toArray⟩, .slice a m c_, .map none].toArray 139 (0, 0))] :: [(b_2, .cells [.string ⟨#[]⟩, .slice none 0 0, .map none].toArray 139 (0, 0))] :: [(b_1, .cells (c.cells T).toArray 39 (0, 0))] :: L = L' ∧ Row 144 7 a m c_ (es.flatMap fk) N ∧ m = es.length ∧ (∀ p : KE 7, p ∈ es → At_TopologyDescriptionNode H' p.2 (fk p)) ∧ es.map (·.2) = ((T.at 1).l.take k).map id ∧ a.isNone = false) [(1, .pointer (some ⟨b_1, 0, none⟩)), (2, .pointer (some ⟨b_2, 0, none⟩)), (3, .pointer (some ⟨b_3, 0, none⟩)), (25, .slice c24.la (T.at 1).l.length c24.lc), (26, .int .i64 ((T.at 1).l.length : Int))] (fun k l' H' L' h => ?_) (by omega) rfl (.cons rfl (.cons rfl (.cons rfl (.cons rfl (.cons rfl (.nil _)))))) ⟨some ⟨bm21, 0, none⟩, 0, _, [], N21, rfl, rfl, r21, rfl, (fun p hp => by cases hp), (by simp), rfl⟩ rfl rfl rfl rfl rfl (fun k l' H' L' hk le_9 hI => ?_) (fun l' H' L' le_10 hI => ?_)
      · obtain ⟨a, m, c_, es, N, rfl, _⟩ := h; exact ⟨rfl, rfl, rfl, rfl⟩
      · skip
        obtain ⟨a, m, c_, es, N, rfl, rfl, pk0, pk1, pk2, pk3, pk4⟩ := hI
        refine sr ?_
        obtain ⟨b_11, o_12, e_13, g_14⟩ := (g24.l.mono le_9).at_ (ne_nil_of_lt hk)
        obtain ⟨c_15, q_16, q_17⟩ := g_14 k hk
        refine ix2 Tryz.runUnderlying36 Tryz.sizeOf39 rfl e_13 rfl rfl hk rfl ?_
        refine la (Says.fz q_16) Tryz.isAgg39 Tryz.sizeOf39 rfl (Nat.add_zero _).symm rfl rfl ?_
        refine al Tryz.zeroValue39 rfl rfl (fun b_18 => ?_)
        refine sa Tryz.sizeOf39 rfl rfl rfl rfl rfl .head ?_
        refine nl ?_
        refine rgD 7 (.keep (.skip (.keep (.keep (.keep .nil))))) mixed ?_
        refine dT 0 rfl rfl rfl (by kernel_rfl) (fun _ _ _ h => h) (y_fa0 F139_1 rfl) (.keep (.skip (.keep (.keep (.keep .nil))))) (Fz.le.refl _) ?_
        refine dT 1 rfl rfl rfl (by kernel_rfl) (fun _ _ _ h => h) (y_ld (Says.own (.tail .head)) Tryz.isAgg137 rfl (Nat.zero_add _).symm rfl) (.keep (.skip (.keep (.keep (.keep .nil))))) (Fz.le.refl _) ?_
        refine dT 2 rfl rfl rfl (by kernel_rfl) (fun _ _ _ h => h) (y_la (Says.own .head) Tryz.isAgg39 Tryz.sizeOf39 rfl (Nat.zero_add _).symm rfl) (.keep (.skip (.keep (.keep (.keep .nil))))) (Fz.le.refl _) ?_
        refine dE 3 (by kernel_rfl) rfl ?_
        refine cl rfl rfl rfl (make_TopologyDescriptionNode q_17 ((hf.at 1).el (List.getElem_mem hk))) rfl (fun v H1 L1 le_19 hR => ?_)
        obtain ⟨rfl, cs34, rfl, g34⟩ := hR
        have ho34 := At_TopologyDescriptionNode.ok g34
        have gg34 := g34
        obtain ⟨a2e, c2e, p3e, a4e, c4e, a5e, c5e, mte, rfl, he0, he1, he2, he3, he4⟩ := g34
        refine dN (.keep (.skip (.keep (.keep (.keep .nil))))) le_19 ?_
        refine dE 4 (by kernel_rfl) rfl ?_
        refine bs' L137 rfl rfl rfl rfl (fun b_20 => ?_)
        refine dN (.skip (.keep (.skip (.keep (.keep (.keep .nil)))))) le_19 ?_
        refine dE 5 (by kernel_rfl) rfl ?_
        have hmk : m = k := by have h1 := congrArg List.length pk3; rw [List.length_map, List.length_map, List.length_take] at h1; omega
        refine ap (news := fk ((⟨_, ho34⟩, (T.at 1).l[k]) : KE 7)) Tryz.underlying137 I144 rfl rfl pk0 (fun _ => (.tail (.tail .head))) (src_says Tryz.underlying137 rfl (fun _ => Says.own .head) (fk_one _)) (by omega) (by unfold maxLen; omega) rfl (fun a36 c36 N36 r36 z36 => ?_)
        rw [flatMap_snoc'] at r36
        have hin : a36.isNone = false := by cases a36 with | none => have := z36.1 rfl; omega | some _ => rfl
        refine dN (.skip (.keep (.skip (.keep (.keep (.keep .nil)))))) le_19 ?_
        refine dT 6 rfl rfl rfl (by kernel_rfl) (fun _ _ _ h => h) (y_fa0 F139_1 rfl) (.skip (.keep (.skip (.keep (.keep (.keep .nil)))))) le_19 ?_
        refine dE 7 (by kernel_rfl) rfl ?_
        refine st Tryz.sizeOf137 rfl rfl rfl rfl (.tail (.tail (.tail .head))) ?_
        refine dNk (by kernel_rfl) ?_
        refine dD (by kernel_rfl) ?_
        refine Nb ?_
        refine drN .head ?_
        refine drN .head ?_
        refine fun a_ w_ hA hw => ⟨_, _, _, hA.sub ?_, (le_9.trans le_19), hw, _, rfl, a36, _, c36, (es ++ [((⟨_, ho34⟩, (T.at 1).l[k]) : KE 7)]), N36, rfl, rfl, r36, (by simp; omega), (fun p hp => (mem_snoc hp).elim (fun h => At_TopologyDescriptionNode.mono _ _ _ _ le_19 (pk2 p h)) (fun h => h ▸ At_TopologyDescriptionNode.mono _ _ _ _ (Fz.le.refl _) gg34)), (map_take_snoc hk pk3), hin⟩
        exact (.cons rfl (.cons rfl (.cons rfl (.cons rfl (.cons rfl (.cons rfl (.nil _)))))))
      · skip
        obtain ⟨a, m, c_, es, N, rfl, rfl, pk0, pk1, pk2, pk3, pk4⟩ := hI
        refine toNn ?_
        have hm : m = (T.at 1).l.length := by have h1 := congrArg List.length pk3; rw [List.length_map, List.length_map, List.take_length] at h1; omega
        have hfe : es.map (·.2) = (T.at 1).l := by rw [pk3, List.take_length, List.map_id]
        refine frN pk0 .head (fun H2 hle2 hfz => ?_)
        have hrw := RowsAt.row (R := At_TopologyDescriptionNode) hfz pk1 pk0.le.1 (fun p hp => At_TopologyDescriptionNode.mono _ _ _ _ hle2 (pk2 p hp))
        rw [hfe, ← hlt] at hrw
        have hnl : m = (lT (T.at 1)).length := by rw [hlt]; exact hm
        have hla : ListAt H2 (T.at 1) 7 At_TopologyDescriptionNode a c_ := ⟨hrw, by rw [pk4, hnu]⟩
        refine fun a_ w_ hA hw => ⟨_, _, _, hA.sub ?_, (le_10.trans hle2), hw, a, m, c_, rfl, rfl, hnl, hla⟩
        exact (.cons rfl (.cons rfl (.cons rfl (.nil _))))
    · skip
      have hnu : (T.at 1).nul = true := by simpa using h16
      refine skN ?_
      refine fun a_ w_ hA hw => ⟨_, _, _, hA.sub ?_, (Fz.le.refl _), hw, none, 0, 0, rfl, rfl, (by rw [lT_nul hnu]; rfl), (ListAt.none hnu)⟩
      exact (.cons rfl (.cons rfl (.cons rfl (.nil _))))
  · skip
    obtain ⟨a1, n1, c1, rfl, rfl, pj0, pj1⟩ := hI
    subst pj0
    have hf1 := pj1
    refine sq ?_
    refine sr ?_
    refine fa0 F39_4 rfl rfl ?_
    refine ld (Says.own (.tail (.tail .head))) Tryz.isAgg37 rfl (Nat.zero_add _).symm rfl rfl ?_
    refine ls Tryz.runUnderlying37 rfl rfl ?_
    refine mv rfl rfl ?_
    refine nl ?_
    refine nulC2 ?_
    have hun := hf.un
    refine fr (T.u.length) (fun q l' H' L' => ∃ (m : Option Nat), ∃ (kvs : List KV), ∃ (M : Chunk), [(2, .pointer (some ⟨b_2, 0, none⟩)), (3, .pointer (some ⟨b_3, 0, none⟩)), (40, .slice c.ua T.u.length c.uc), (41, .int .i64 (T.u.length : Int))] = l' ∧ M :: [(b_3, .cells [.string ⟨(T.at 0).s.toArray⟩, .slice a1 (lT (T.at 1)).length c1, .map m].toArray 139 (0, 0))] :: [(b_2, .cells [.string ⟨#[]⟩, .slice none 0 0, .map none].toArray 139 (0, 0))] :: [(b_1, .cells (c.cells T).toArray 39 (0, 0))] :: L = L' ∧ MapC m kvs M ∧ KvTo H' (T.u.take q) kvs) [(2, .pointer (some ⟨b_2, 0, none⟩)), (3, .pointer (some ⟨b_3, 0, none⟩)), (40, .slice c.ua T.u.length c.uc), (41, .int .i64 (T.u.length : Int))] (fun q l' H' L' h => ?_) (by omega) rfl (.cons rfl (.cons rfl (.cons rfl (.cons rfl (.nil _))))) ⟨none, [], [], rfl, rfl, MapC.nil, (KvTo.nil _)⟩ rfl rfl rfl rfl rfl (fun q l' H' L' hq le_21 hI => ?_) (fun l' H' L' le_22 hI => ?_)
    · obtain ⟨m, kvs, M, rfl, _⟩ := h; exact ⟨rfl, rfl, rfl, rfl⟩
    · skip
      obtain ⟨m, kvs, M, rfl, rfl, pq0, pq1⟩ := hI
      refine sr ?_
      obtain ⟨b_23, o_24, e_25, g_26⟩ := (hT.u.mono (le_6.trans le_21)).at_ (ne_nil_of_lt hq)
      obtain ⟨c_27, q_28, q_29⟩ := g_26 q hq
      refine ix2 Tryz.runUnderlying37 Tryz.sizeOf65 rfl e_25 rfl rfl hq rfl ?_
      refine la (Says.fz q_28) Tryz.isAgg65 Tryz.sizeOf65 rfl (Nat.add_zero _).symm rfl rfl ?_
      refine al Tryz.zeroValue65 rfl rfl (fun b_30 => ?_)
      refine sa Tryz.sizeOf65 rfl rfl rfl rfl rfl .head ?_
      refine nl ?_
      refine rg ?_
      refine fa0 F139_2 rfl rfl ?_
      refine fa0 F65_0 rfl rfl ?_
      refine ld (Says.own .head) Tryz.isAgg62 rfl (Nat.zero_add _).symm rfl rfl ?_
      refine fa0 F65_1 rfl rfl ?_
      refine ld (Says.own .head) Tryz.isAgg22 rfl (Nat.zero_add _).symm rfl rfl ?_
      refine tf (.tail (.tail .head)) ?_
      refine tf (.tail (.tail .head)) ?_
      refine cl rfl rfl rfl (t_set (cs := [.string ⟨(T.at 0).s.toArray⟩, .slice a1 (lT (T.at 1)).length c1, .map m]) (off := 2) pq0 rfl) rfl (fun v H1 L1 hle hR => ?_)
      obtain ⟨rfl, g51, cs51, hs51, rfl⟩ := hR
      obtain rfl : [.string ⟨(T.at 0).s.toArray⟩, .slice a1 (lT (T.at 1)).length c1, .map (some g51)] = cs51 := Option.some.inj hs51
      refine nN ?_
      refine Nb ?_
      refine drN (.tail (.tail .head)) ?_
      refine fun a_ w_ hA hw => ⟨_, _, _, hA.sub ?_, le_21, hw, _, rfl, _, _, [(g51, _)], rfl, rfl, (.inr ⟨g51, rfl, rfl⟩), (KvTo.put hf.u (List.getElem?_eq_getElem hq) pq1 (⟨⟨_, _, rfl, q_29.val⟩, q_29.lo, q_29.hi⟩))⟩
      exact (.cons rfl (.cons rfl (.cons rfl (.cons rfl (.cons rfl (.nil _))))))
    · skip
      obtain ⟨m, kvs, M, rfl, rfl, pq0, pq1⟩ := hI
      refine toWp ?_
      rw [List.take_length] at pq1
      refine frMW pq0 .head (fun H3 hle3 hmf => ?_)
      have hft := KvTo.at_ hf.u (pq1.mono hle3) hmf
      refine sr ?_
      refine la (Says.own .head) Tryz.isAgg139 Tryz.sizeOf139 rfl (Nat.zero_add _).symm rfl rfl ?_
      refine sa Tryz.sizeOf139 rfl rfl rfl rfl rfl (.tail .head) ?_
      refine nl ?_
      refine drW .head ?_
      refine drW (.tail .head) ?_
      exact rC rfl Tryz.isAgg139 Tryz.sizeOf139 rfl .head rfl (le_6.trans (le_22.trans hle3)) (fun _ _ h => h) ⟨rfl, _, rfl, ⟨a1, c1, m, rfl, (hf1.mono At_TopologyDescriptionNode.mono (le_22.trans hle3)), hft⟩⟩
theorem make_TopologyDescriptionGlobalStore {H : Fz} {L : Own} {c : TC} {T : Tr} (hT : TreeAt H c T) (hf : Fine T) :
    Fn Tryz.prog 130 [.agg (c.cells T).toArray] H L (fun v H' L' => L = L' ∧ ∃ cs : List Value, v = .agg cs.toArray ∧ At_TopologyDescriptionGlobalStore H' T cs) := by
  refine Fn.mk Tryz.call130 Tryz.func130 rfl Tryz.ntmps130 rfl ?_
  refine sr ?_
  refine bx rfl rfl rfl (fun b_1 => ?_)
  refine al Tryz.zeroValue148 rfl rfl (fun b_2 => ?_)
  refine nl ?_
  refine sr ?_
  refine al Tryz.zeroValue148 rfl rfl (fun b_3 => ?_)
  refine nl ?_
  refine sr ?_
  refine la (Says.own (.tail (.tail .head))) Tryz.isAgg39 Tryz.sizeOf39 rfl (Nat.zero_add _).symm rfl rfl ?_
  refine cl rfl rfl rfl (m_at (i := 0) hT) rfl (fun v H1 L1 hle hR => ?_)
  obtain ⟨rfl, rfl, c7, rfl, g7⟩ := hR
  refine cl rfl rfl rfl (make_TopologyDescriptionNode g7 (hf.at 0)) rfl (fun v H1 L1 le_5 hR => ?_)
  obtain ⟨rfl, cs8, rfl, g8⟩ := hR
  obtain ⟨a0_2, c0_2, p0_3, a0_4, c0_4, a0_5, c0_5, m0_t, rfl, hf0_0, hf0_1, hf0_2, hf0_3, hf0_4⟩ := g8
  refine fa0 F148_0 rfl rfl ?_
  refine sa Tryz.sizeOf144 rfl rfl rfl rfl rfl .head ?_
  refine nl ?_
  refine sr ?_
  refine la (Says.own (.tail (.tail .head))) Tryz.isAgg39 Tryz.sizeOf39 rfl (Nat.zero_add _).symm rfl rfl ?_
  refine cl rfl rfl rfl (m_at (i := 1) (hT.mono le_5)) rfl (fun v H1 L1 hle hR => ?_)
  obtain ⟨rfl, rfl, c11, rfl, g11⟩ := hR
  refine cl rfl rfl rfl (make_TopologyDescriptionNode g11 (hf.at 1)) rfl (fun v H1 L1 le_7 hR => ?_)
  obtain ⟨rfl, cs12, rfl, g12⟩ := hR
  obtain ⟨a1_2, c1_2, p1_3, a1_4, c1_4, a1_5, c1_5, m1_t, rfl, hf1_0, hf1_1, hf1_2, hf1_3, hf1_4⟩ := g12
  refine fa0 F148_1 rfl rfl ?_
  refine sa Tryz.sizeOf144 rfl rfl rfl rfl rfl .head ?_
  refine nl ?_
  refine sq ?_
  refine sr ?_
  refine fa0 F39_4 rfl rfl ?_
  refine ld (Says.own (.tail (.tail .head))) Tryz.isAgg37 rfl (Nat.zero_add _).symm rfl rfl ?_
  refine ls Tryz.runUnderlying37 rfl rfl ?_
  refine mv rfl rfl ?_
  refine nl ?_
  refine nulC2 ?_
  have hun := hf.un
  refine fr (T.u.length) (fun q l' H' L' => ∃ (m : Option Nat), ∃ (kvs : List KV), ∃ (M : Chunk), [(2, .pointer (some ⟨b_2, 0, none⟩)), (3, .pointer (some ⟨b_3, 0, none⟩)), (15, .slice c.ua T.u.length c.uc), (16, .int .i64 (T.u.length : Int))] = l' ∧ M :: [(b_3, .cells [.string ⟨((T.at 0).at 0).s.toArray⟩, .int .i8 (IntKind.i8.wrap ((T.at 0).at 1).n), .slice a0_2 (lT ((T.at 0).at 2)).length c0_2, .pointer p0_3, .slice a0_4 (lT ((T.at 0).at 4)).length c0_4, .slice a0_5 (lT ((T.at 0).at 5)).length c0_5, .map m0_t, .string ⟨((T.at 1).at 0).s.toArray⟩, .int .i8 (IntKind.i8.wrap ((T.at 1).at 1).n), .slice a1_2 (lT ((T.at 1).at 2)).length c1_2, .pointer p1_3, .slice a1_4 (lT ((T.at 1).at 4)).length c1_4, .slice a1_5 (lT ((T.at 1).at 5)).length c1_5, .map m1_t, .map m].toArray 148 (0, 0))] :: [(b_2, .cells [.string ⟨#[]⟩, .int .i8 0, .slice none 0 0, .pointer none, .slice none 0 0, .slice none 0 0, .map none, .string ⟨#[]⟩, .int .i8 0, .slice none 0 0, .pointer none, .slice none 0 0, .slice none 0 0, .map none, .map none].toArray 148 (0, 0))] :: [(b_1, .cells (c.cells T).toArray 39 (0, 0))] :: L = L' ∧ MapC m kvs M ∧ KvTo H' (T.u.take q) kvs) [(2, .pointer (some ⟨b_2, 0, none⟩)), (3, .pointer (some ⟨b_3, 0, none⟩)), (15, .slice c.ua T.u.length c.uc), (16, .int .i64 (T.u.length : Int))] (fun q l' H' L' h => ?_) (by omega) rfl (.cons rfl (.cons rfl (.cons rfl (.cons rfl (.nil _))))) ⟨none, [], [], rfl, rfl, MapC.nil, (KvTo.nil _)⟩ rfl rfl rfl rfl rfl (fun q l' H' L' hq le_8 hI => ?_) (fun l' H' L' le_9 hI => ?_)
  · obtain ⟨m, kvs, M, rfl, _⟩ := h; exact ⟨rfl, rfl, rfl, rfl⟩
  · skip
    obtain ⟨m, kvs, M, rfl, rfl, pq0, pq1⟩ := hI
    refine sr ?_
    obtain ⟨b_10, o_11, e_12, g_13⟩ := (hT.u.mono (le_5.trans (le_7.trans le_8))).at_ (ne_nil_of_lt hq)
    obtain ⟨c_14, q_15, q_16⟩ := g_13 q hq
    refine ix2 Tryz.runUnderlying37 Tryz.sizeOf65 rfl e_12 rfl rfl hq rfl ?_
    refine la (Says.fz q_15) Tryz.isAgg65 Tryz.sizeOf65 rfl (Nat.add_zero _).symm rfl rfl ?_
    refine al Tryz.zeroValue65 rfl rfl (fun b_17 => ?_)
    refine sa Tryz.sizeOf65 rfl rfl rfl rfl rfl .head ?_
    refine nl ?_
    refine rg ?_
    refine fa0 F148_2 rfl rfl ?_
    refine fa0 F65_0 rfl rfl ?_
    refine ld (Says.own .head) Tryz.isAgg62 rfl (Nat.zero_add _).symm rfl rfl ?_
    refine fa0 F65_1 rfl rfl ?_
    refine ld (Says.own .head) Tryz.isAgg22 rfl (Nat.zero_add _).symm rfl rfl ?_
    refine tf (.tail (.tail .head)) ?_
    refine tf (.tail (.tail .head)) ?_
    refine cl rfl rfl rfl (t_set (cs := [.string ⟨((T.at 0).at 0).s.toArray⟩, .int .i8 (IntKind.i8.wrap ((T.at 0).at 1).n), .slice a0_2 (lT ((T.at 0).at 2)).length c0_2, .pointer p0_3, .slice a0_4 (lT ((T.at 0).at 4)).length c0_4, .slice a0_5 (lT ((T.at 0).at 5)).length c0_5, .map m0_t, .string ⟨((T.at 1).at 0).s.toArray⟩, .int .i8 (IntKind.i8.wrap ((T.at 1).at 1).n), .slice a1_2 (lT ((T.at 1).at 2)).length c1_2, .pointer p1_3, .slice a1_4 (lT ((T.at 1).at 4)).length c1_4, .slice a1_5 (lT ((T.at 1).at 5)).length c1_5, .map m1_t, .map m]) (off := 14) pq0 rfl) rfl (fun v H1 L1 hle hR => ?_)
    obtain ⟨rfl, g26, cs26, hs26, rfl⟩ := hR
    obtain rfl : [.string ⟨((T.at 0).at 0).s.toArray⟩, .int .i8 (IntKind.i8.wrap ((T.at 0).at 1).n), .slice a0_2 (lT ((T.at 0).at 2)).length c0_2, .pointer p0_3, .slice a0_4 (lT ((T.at 0).at 4)).length c0_4, .slice a0_5 (lT ((T.at 0).at 5)).length c0_5, .map m0_t, .string ⟨((T.at 1).at 0).s.toArray⟩, .int .i8 (IntKind.i8.wrap ((T.at 1).at 1).n), .slice a1_2 (lT ((T.at 1).at 2)).length c1_2, .pointer p1_3, .slice a1_4 (lT ((T.at 1).at 4)).length c1_4, .slice a1_5 (lT ((T.at 1).at 5)).length c1_5, .map m1_t, .map (some g26)] = cs26 := Option.some.inj hs26
    refine nN ?_
    refine Nb ?_
    refine drN (.tail (.tail .head)) ?_
    refine fun a_ w_ hA hw => ⟨_, _, _, hA.sub ?_, le_8, hw, _, rfl, _, _, [(g26, _)], rfl, rfl, (.inr ⟨g26, rfl, rfl⟩), (KvTo.put hf.u (List.getElem?_eq_getElem hq) pq1 (⟨⟨_, _, rfl, q_16.val⟩, q_16.lo, q_16.hi⟩))⟩
    exact (.cons rfl (.cons rfl (.cons rfl (.cons rfl (.cons rfl (.nil _))))))
  · skip
    obtain ⟨m, kvs, M, rfl, rfl, pq0, pq1⟩ := hI
    refine toWp ?_
    rw [List.take_length] at pq1
    refine frMW pq0 .head (fun H3 hle3 hmf => ?_)
    have hft := KvTo.at_ hf.u (pq1.mono hle3) hmf
    refine sr ?_
    refine la (Says.own .head) Tryz.isAgg148 Tryz.sizeOf148 rfl (Nat.zero_add _).symm rfl rfl ?_
    refine sa Tryz.sizeOf148 rfl rfl rfl rfl rfl (.tail .head) ?_
    refine nl ?_
    refine drW .head ?_
    refine drW (.tail .head) ?_
    exact rC rfl Tryz.isAgg148 Tryz.sizeOf148 rfl .head rfl (le_5.trans (le_7.trans (le_9.trans hle3))) (fun _ _ h => h) ⟨rfl, _, rfl, ⟨a0_2, c0_2, p0_3, a0_4, c0_4, a0_5, c0_5, m0_t, a1_2, c1_2, p1_3, a1_4, c1_4, a1_5, c1_5, m1_t, m, rfl, (hf0_0.mono RText.mono (le_7.trans (le_9.trans hle3))), (hf0_1.mono (le_7.trans (le_9.trans hle3))), (hf0_2.mono RText.mono (le_7.trans (le_9.trans hle3))), (hf0_3.mono RText.mono (le_7.trans (le_9.trans hle3))), (hf0_4.mono (le_7.trans (le_9.trans hle3))), (hf1_0.mono RText.mono (le_9.trans hle3)), (hf1_1.mono (le_9.trans hle3)), (hf1_2.mono RText.mono (le_9.trans hle3)), (hf1_3.mono RText.mono (le_9.trans hle3)), (hf1_4.mono (le_9.trans hle3)), hft⟩⟩
theorem make_TopologyDescription {H : Fz} {L : Own} {c : TC} {T : Tr} (hT : TreeAt H c T) (hf : Fine T) :
    Fn Tryz.prog 90 [.agg (c.cells T).toArray] H L (fun v H' L' => L = L' ∧ ∃ cs : List Value, v = .agg cs.toArray ∧ At_TopologyDescription H' T cs) := by
  refine Fn.mk Tryz.call90 Tryz.func90 rfl Tryz.ntmps90 rfl ?_
  refine sr ?_
  refine bx rfl rfl rfl (fun b_1 => ?_)
  refine al Tryz.zeroValue75 rfl rfl (fun b_2 => ?_)
  refine nl ?_
  refine sr ?_
  refine al Tryz.zeroValue75 rfl rfl (fun b_3 => ?_)
  refine nl ?_
  refine sq ?_
  refine sr ?_
  refine la (Says.own (.tail (.tail .head))) Tryz.isAgg39 Tryz.sizeOf39 rfl (Nat.zero_add _).symm rfl rfl ?_
  refine cl rfl rfl rfl (m_at (i := 0) hT) rfl (fun v H1 L1 hle hR => ?_)
  obtain ⟨rfl, rfl, c11, rfl, g11⟩ := hR
  refine fc C39_2 rfl rfl rfl ?_
  refine nt rfl rfl ?_
  refine nl ?_
  refine cutT (fun l' H' L' => ∃ (a0 : Option Addr), ∃ (n0 : Nat), ∃ (c0 : Nat), [(1, .pointer (some ⟨b_1, 0, none⟩)), (2, .pointer (some ⟨b_2, 0, none⟩)), (3, .pointer (some ⟨b_3, 0, none⟩))] = l' ∧ [(b_3, .cells [.slice a0 n0 c0, .slice none 0 0, .map none].toArray 75 (0, 0))] :: [(b_2, .cells [.slice none 0 0, .slice none 0 0, .map none].toArray 75 (0, 0))] :: [(b_1, .cells (c.cells T).toArray 39 (0, 0))] :: L = L' ∧ n0 = (lT (T.at 0)).length ∧ ListAt H' (T.at 0) 3 At_TopologyDescriptionSubtopology a0 c0) ?_ (fun l' H' L' le_5 hI => ?_)
  · skip
    refine cb rfl (fun h13 => ?_) (fun h13 => ?_)
    · skip
      have hnu : (T.at 0).nul = false := by simpa using h13
      have hlt : lT (T.at 0) = (T.at 0).l := lT_not hnu
      have hfl := (hf.at 0).len
      refine sr ?_
      refine la (Says.own (.tail (.tail .head))) Tryz.isAgg39 Tryz.sizeOf39 rfl (Nat.zero_add _).symm rfl rfl ?_
      refine cl rfl rfl rfl (m_at (i := 0) hT) rfl (fun v H1 L1 hle hR => ?_)
      obtain ⟨rfl, rfl, c15, rfl, g15⟩ := hR
      refine fc C39_3 rfl rfl rfl ?_
      refine ls Tryz.runUnderlying36 rfl rfl ?_
      refine mks (m := 0) (c := (T.at 0).l.length) (zs := [.string ⟨#[]⟩, .slice none 0 0, .map none]) Tryz.underlying72 I139 rfl rfl rfl rfl rfl (by omega) (by omega) (by unfold maxLen; omega) rfl (fun bm18 N18 r18 => ?_)
      refine fa0 F75_0 rfl rfl ?_
      refine st Tryz.sizeOf72 rfl rfl rfl rfl (.tail .head) ?_
      refine nl ?_
      refine sr ?_
      refine la (Says.own (.tail (.tail (.tail .head)))) Tryz.isAgg39 Tryz.sizeOf39 rfl (Nat.zero_add _).symm rfl rfl ?_
      refine cl rfl rfl rfl (m_at (i := 0) hT) rfl (fun v H1 L1 hle hR => ?_)
      obtain ⟨rfl, rfl, c21, rfl, g21⟩ := hR
      refine fc C39_3 rfl rfl rfl ?_
      refine ls Tryz.runUnderlying36 rfl rfl ?_
      refine mv rfl rfl ?_
      refine nl ?_
      refine fr ((T.at 0).l.length) (fun k l' H' L' => ∃ (a : Option Addr), ∃ (m : Nat), ∃ (c_ : Nat), ∃ (es : List (KE 3)), ∃ (N : Chunk), [(1, .pointer (some ⟨b_1, 0, none⟩)), (2, .pointer (some ⟨b_2, 0, none⟩)), (3, .pointer (some ⟨b_3, 0, none⟩)), (22, .slice c21.la (T.at 0).l.length c21.lc), (23, .int .i64 ((T.at 0).l.length : Int))] = l' ∧ N :: [(b_3, .cells [.slice a m c_, .slice none 0 0, .map none].toArray 75 (0, 0))] :: [(b_2, .cells [.slice none 0 0, .slice none 0 0, .map none].toArray 75 (0, 0))] :: [(b_1, .cells (c.cells T).toArray 39 (0, 0))] :: L = L' ∧ Row 139 3 a m c_ (es.flatMap fk) N ∧ m = es.length ∧ (∀ p : KE 3, p ∈ es → At_TopologyDescriptionSubtopology H' p.2 (fk p)) ∧ es.map (·.2) = ((T.at 0).l.take k).map id ∧ a.isNone = false) [(1, .pointer (some ⟨b_1, 0, none⟩)), (2, .pointer (some ⟨b_2, 0, none⟩)), (3, .pointer (some ⟨b_3, 0, none⟩)), (22, .slice c21.la (T.at 0).l.length c21.lc), (23, .int .i64 ((T.at 0).l.length : Int))] (fun k l' H' L' h => ?_) (by omega) rfl (.cons rfl (.cons rfl (.cons rfl (.cons rfl (.cons rfl (.nil _)))))) ⟨some ⟨bm18, 0, none⟩, 0, _, [], N18, rfl, rfl, r18, rfl, (fun p hp => by cases hp), (by simp), rfl⟩ rfl rfl rfl rfl rfl (fun k l' H' L' hk le_8 hI => ?_) (fun l' H' L' le_9 hI => ?_)
      · obtain ⟨a, m, c_, es, N, rfl, _⟩ := h; exact ⟨rfl, rfl, rfl, rfl⟩
      · skip
        obtain ⟨a, m, c_, es, N, rfl, rfl, pk0, pk1, pk2, pk3, pk4⟩ := hI
        refine sr ?_
        obtain ⟨b_10, o_11, e_12, g_13⟩ := (g21.l.mono le_8).at_ (ne_nil_of_lt hk)
        obtain ⟨c_14, q_15, q_16⟩ := g_13 k hk
        refine ix2 Tryz.runUnderlying36 Tryz.sizeOf39 rfl e_12 rfl rfl hk rfl ?_
        refine la (Says.fz q_15) Tryz.isAgg39 Tryz.sizeOf39 rfl (Nat.add_zero _).symm rfl rfl ?_
        refine al Tryz.zeroValue39 rfl rfl (fun b_17 => ?_)
        refine sa Tryz.sizeOf39 rfl rfl rfl rfl rfl .head ?_
        refine nl ?_
        refine rgD 7 (.keep (.skip (.keep (.keep (.keep .nil))))) mixed ?_
        refine dT 0 rfl rfl rfl (by kernel_rfl) (fun _ _ _ h => h) (y_fa0 F75_0 rfl) (.keep (.skip (.keep (.keep (.keep .nil))))) (Fz.le.refl _) ?_
        refine dT 1 rfl rfl rfl (by kernel_rfl) (fun _ _ _ h => h) (y_ld (Says.own (.tail .head)) Tryz.isAgg72 rfl (Nat.zero_add _).symm rfl) (.keep (.skip (.keep (.keep (.keep .nil))))) (Fz.le.refl _) ?_
        refine dT 2 rfl rfl rfl (by kernel_rfl) (fun _ _ _ h => h) (y_la (Says.own .head) Tryz.isAgg39 Tryz.sizeOf39 rfl (Nat.zero_add _).symm rfl) (.keep (.skip (.keep (.keep (.keep .nil))))) (Fz.le.refl _) ?_
        refine dE 3 (by kernel_rfl) rfl ?_
        refine cl rfl rfl rfl (make_TopologyDescriptionSubtopology q_16 ((hf.at 0).el (List.getElem_mem hk))) rfl (fun v H1 L1 le_18 hR => ?_)
        obtain ⟨rfl, cs31, rfl, g31⟩ := hR
        have ho31 := At_TopologyDescriptionSubtopology.ok g31
        have gg31 := g31
        obtain ⟨a1e, c1e, mte, rfl, he0, he1⟩ := g31
        refine dN (.keep (.skip (.keep (.keep (.keep .nil))))) le_18 ?_
        refine dE 4 (by kernel_rfl) rfl ?_
        refine bs' L72 rfl rfl rfl rfl (fun b_19 => ?_)
        refine dN (.skip (.keep (.skip (.keep (.keep (.keep .nil)))))) le_18 ?_
        refine dE 5 (by kernel_rfl) rfl ?_
        have hmk : m = k := by have h1 := congrArg List.length pk3; rw [List.length_map, List.length_map, List.length_take] at h1; omega
        refine ap (news := fk ((⟨_, ho31⟩, (T.at 0).l[k]) : KE 3)) Tryz.underlying72 I139 rfl rfl pk0 (fun _ => (.tail (.tail .head))) (src_says Tryz.underlying72 rfl (fun _ => Says.own .head) (fk_one _)) (by omega) (by unfold maxLen; omega) rfl (fun a33 c33 N33 r33 z33 => ?_)
        rw [flatMap_snoc'] at r33
        have hin : a33.isNone = false := by cases a33 with | none => have := z33.1 rfl; omega | some _ => rfl
        refine dN (.skip (.keep (.skip (.keep (.keep (.keep .nil)))))) le_18 ?_
        refine dT 6 rfl rfl rfl (by kernel_rfl) (fun _ _ _ h => h) (y_fa0 F75_0 rfl) (.skip (.keep (.skip (.keep (.keep (.keep .nil)))))) le_18 ?_
        refine dE 7 (by kernel_rfl) rfl ?_
        refine st Tryz.sizeOf72 rfl rfl rfl rfl (.tail (.tail (.tail .head))) ?_
        refine dNk (by kernel_rfl) ?_
        refine dD (by kernel_rfl) ?_
        refine Nb ?_
        refine drN .head ?_
        refine drN .head ?_
        refine fun a_ w_ hA hw => ⟨_, _, _, hA.sub ?_, (le_8.trans le_18), hw, _, rfl, a33, _, c33, (es ++ [((⟨_, ho31⟩, (T.at 0).l[k]) : KE 3)]), N33, rfl, rfl, r33, (by simp; omega), (fun p hp => (mem_snoc hp).elim (fun h => At_TopologyDescriptionSubtopology.mono _ _ _ _ le_18 (pk2 p h)) (fun h => h ▸ At_TopologyDescriptionSubtopology.mono _ _ _ _ (Fz.le.refl _) gg31)), (map_take_snoc hk pk3), hin⟩
        exact (.cons rfl (.cons rfl (.cons rfl (.cons rfl (.cons rfl (.cons rfl (.nil _)))))))
      · skip
        obtain ⟨a, m, c_, es, N, rfl, rfl, pk0, pk1, pk2, pk3, pk4⟩ := hI
        refine toNn ?_
        have hm : m = (T.at 0).l.length := by have h1 := congrArg List.length pk3; rw [List.length_map, List.length_map, List.take_length] at h1; omega
        have hfe : es.map (·.2) = (T.at 0).l := by rw [pk3, List.take_length, List.map_id]
        refine frN pk0 .head (fun H2 hle2 hfz => ?_)
        have hrw := RowsAt.row (R := At_TopologyDescriptionSubtopology) hfz pk1 pk0.le.1 (fun p hp => At_TopologyDescriptionSubtopology.mono _ _ _ _ hle2 (pk2 p hp))
        rw [hfe, ← hlt] at hrw
        have hnl : m = (lT (T.at 0)).length := by rw [hlt]; exact hm
        have hla : ListAt H2 (T.at 0) 3 At_TopologyDescriptionSubtopology a c_ := ⟨hrw, by rw [pk4, hnu]⟩
        refine fun a_ w_ hA hw => ⟨_, _, _, hA.sub ?_, (le_9.trans hle2), hw, a, m, c_, rfl, rfl, hnl, hla⟩
        exact (.cons rfl (.cons rfl (.cons rfl (.nil _))))
    · skip
      have hnu : (T.at 0).nul = true := by simpa using h13
      refine skN ?_
      refine fun a_ w_ hA hw => ⟨_, _, _, hA.sub ?_, (Fz.le.refl _), hw, none, 0, 0, rfl, rfl, (by rw [lT_nul hnu]; rfl), (ListAt.none hnu)⟩
      exact (.cons rfl (.cons rfl (.cons rfl (.nil _))))
  · skip
    obtain ⟨a0, n0, c0, rfl, rfl, pj0, pj1⟩ := hI
    subst pj0
    have hf0 := pj1
    refine sq ?_
    refine sr ?_
    refine la (Says.own (.tail (.tail .head))) Tryz.isAgg39 Tryz.sizeOf39 rfl (Nat.zero_add _).symm rfl rfl ?_
    refine cl rfl rfl rfl (m_at (i := 1) (hT.mono le_5)) rfl (fun v H1 L1 hle hR => ?_)
    obtain ⟨rfl, rfl, c37, rfl, g37⟩ := hR
    refine fc C39_2 rfl rfl rfl ?_
    refine nt rfl rfl ?_
    refine nl ?_
    refine cutT (fun l' H' L' => ∃ (a1 : Option Addr), ∃ (n1 : Nat), ∃ (c1 : Nat), [(1, .pointer (some ⟨b_1, 0, none⟩)), (2, .pointer (some ⟨b_2, 0, none⟩)), (3, .pointer (some ⟨b_3, 0, none⟩))] = l' ∧ [(b_3, .cells [.slice a0 (lT (T.at 0)).length c0, .slice a1 n1 c1, .map none].toArray 75 (0, 0))] :: [(b_2, .cells [.slice none 0 0, .slice none 0 0, .map none].toArray 75 (0, 0))] :: [(b_1, .cells (c.cells T).toArray 39 (0, 0))] :: L = L' ∧ n1 = (lT (T.at 1)).length ∧ ListAt H' (T.at 1) 15 At_TopologyDescriptionGlobalStore a1 c1) ?_ (fun l' H' L' le_21 hI => ?_)
    · skip
      refine cb rfl (fun h39 => ?_) (fun h39 => ?_)
      · skip
        have hnu : (T.at 1).nul = false := by simpa using h39
        have hlt : lT (T.at 1) = (T.at 1).l := lT_not hnu
        have hfl := (hf.at 1).len
        refine sr ?_
        refine la (Says.own (.tail (.tail .head))) Tryz.isAgg39 Tryz.sizeOf39 rfl (Nat.zero_add _).symm rfl rfl ?_
        refine cl rfl rfl rfl (m_at (i := 1) (hT.mono le_5)) rfl (fun v H1 L1 hle hR => ?_)
        obtain ⟨rfl, rfl, c41, rfl, g41⟩ := hR
        refine fc C39_3 rfl rfl rfl ?_
        refine ls Tryz.runUnderlying36 rfl rfl ?_
        refine mks (m := 0) (c := (T.at 1).l.length) (zs := [.string ⟨#[]⟩, .int .i8 0, .slice none 0 0, .pointer none, .slice none 0 0, .slice none 0 0, .map none, .string ⟨#[]⟩, .int .i8 0, .slice none 0 0, .pointer none, .slice none 0 0, .slice none 0 0, .map none, .map none]) Tryz.underlying73 I148 rfl rfl rfl rfl rfl (by omega) (by omega) (by unfold maxLen; omega) rfl (fun bm44 N44 r44 => ?_)
        refine fa0 F75_1 rfl rfl ?_
        refine st Tryz.sizeOf73 rfl rfl rfl rfl (.tail .head) ?_
        refine nl ?_
        refine sr ?_
        refine la (Says.own (.tail (.tail (.tail .head)))) Tryz.isAgg39 Tryz.sizeOf39 rfl (Nat.zero_add _).symm rfl rfl ?_
        refine cl rfl rfl rfl (m_at (i := 1) (hT.mono le_5)) rfl (fun v H1 L1 hle hR => ?_)
        obtain ⟨rfl, rfl, c47, rfl, g47⟩ := hR
        refine fc C39_3 rfl rfl rfl ?_
        refine ls Tryz.runUnderlying36 rfl rfl ?_
        refine mv rfl rfl ?_
        refine nl ?_
        refine fr ((T.at 1).l.length) (fun k l' H' L' => ∃ (a : Option Addr), ∃ (m : Nat), ∃ (c_ : Nat), ∃ (es : List (KE 15)), ∃ (N : Chunk), [(1, .pointer (some ⟨b_1, 0, none⟩)), (2, .pointer (some ⟨b_2, 0, none⟩)), (3, .pointer (some ⟨b_3, 0, none⟩)), (48, .slice c47.la (T.at 1).l.length c47.lc), (49, .int .i64 ((T.at 1).l.length : Int))] = l' ∧ N :: [(b_3, .cells [.slice a0 (lT (T.at 0)).length c0, .slice a m c_, .map none].toArray 75 (0, 0))] :: [(b_2, .cells [.slice none 0 0, .slice none 0 0, .map none].toArray 75 (0, 0))] :: [(b_1, .cells (c.cells T).toArray 39 (0, 0))] :: L = L' ∧ Row 148 15 a m c_ (es.flatMap fk) N ∧ m = es.length ∧ (∀ p : KE 15, p ∈ es → At_TopologyDescriptionGlobalStore H' p.2 (fk p)) ∧ es.map (·.2) = ((T.at 1).l.take k).map id ∧ a.isNone = false) [(1, .pointer (some ⟨b_1, 0, none⟩)), (2, .pointer (some ⟨b_2, 0, none⟩)), (3, .pointer (some ⟨b_3, 0, none⟩)), (48, .slice c47.la (T.at 1).l.length c47.lc), (49, .int .i64 ((T.at 1).l.length : Int))] (fun k l' H' L' h => ?_) (by omega) rfl (.cons rfl (.cons rfl (.cons rfl (.cons rfl (.cons rfl (.nil _)))))) ⟨some ⟨bm44, 0, none⟩, 0, _, [], N44, rfl, rfl, r44, rfl, (fun p hp => by cases hp), (by simp), rfl⟩ rfl rfl rfl rfl rfl (fun k l' H' L' hk le_24 hI => ?_) (fun l' H' L' le_25 hI => ?_)
        · obtain ⟨a, m, c_, es, N, rfl, _⟩ := h; exact ⟨rfl, rfl, rfl, rfl⟩
        · skip
          obtain ⟨a, m, c_, es, N, rfl, rfl, pk0, pk1, pk2, pk3, pk4⟩ := hI
          refine sr ?_
          obtain ⟨b_26, o_27, e_28, g_29⟩ := (g47.l.mono le_24).at_ (ne_nil_of_lt hk)
          obtain ⟨c_30, q_31, q_32⟩ := g_29 k hk
          refine ix2 Tryz.runUnderlying36 Tryz.sizeOf39 rfl e_28 rfl rfl hk rfl ?_
          refine la (Says.fz q_31) Tryz.isAgg39 Tryz.sizeOf39 rfl (Nat.add_zero _).symm rfl rfl ?_
          refine al Tryz.zeroValue39 rfl rfl (fun b_33 => ?_)
          refine sa Tryz.sizeOf39 rfl rfl rfl rfl rfl .head ?_
          refine nl ?_
          refine rgD 7 (.keep (.skip (.keep (.keep (.keep .nil))))) mixed ?_
          refine dT 0 rfl rfl rfl (by kernel_rfl) (fun _ _ _ h => h) (y_fa0 F75_1 rfl) (.keep (.skip (.keep (.keep (.keep .nil))))) (Fz.le.refl _) ?_
          refine dT 1 rfl rfl rfl (by kernel_rfl) (fun _ _ _ h => h) (y_ld (Says.own (.tail .head)) Tryz.isAgg73 rfl (Nat.zero_add _).symm rfl) (.keep (.skip (.keep (.keep (.keep .nil))))) (Fz.le.refl _) ?_
          refine dT 2 rfl rfl rfl (by kernel_rfl) (fun _ _ _ h => h) (y_la (Says.own .head) Tryz.isAgg39 Tryz.sizeOf39 rfl (Nat.zero_add _).symm rfl) (.keep (.skip (.keep (.keep (.keep .nil))))) (Fz.le.refl _) ?_
          refine dE 3 (by kernel_rfl) rfl ?_
          refine cl rfl rfl rfl (make_TopologyDescriptionGlobalStore q_32 ((hf.at 1).el (List.getElem_mem hk))) rfl (fun v H1 L1 le_34 hR => ?_)
          obtain ⟨rfl, cs57, rfl, g57⟩ := hR
          have ho57 := At_TopologyDescriptionGlobalStore.ok g57
          have gg57 := g57
          obtain ⟨a0_2e, c0_2e, p0_3e, a0_4e, c0_4e, a0_5e, c0_5e, m0_te, a1_2e, c1_2e, p1_3e, a1_4e, c1_4e, a1_5e, c1_5e, m1_te, mte, rfl, he0, he1, he2, he3, he4, he5, he6, he7, he8, he9, he10⟩ := g57
          refine dN (.keep (.skip (.keep (.keep (.keep .nil))))) le_34 ?_
          refine dE 4 (by kernel_rfl) rfl ?_
          refine bs' L73 rfl rfl rfl rfl (fun b_35 => ?_)
          refine dN (.skip (.keep (.skip (.keep (.keep (.keep .nil)))))) le_34 ?_
          refine dE 5 (by kernel_rfl) rfl ?_
          have hmk : m = k := by have h1 := congrArg List.length pk3; rw [List.length_map, List.length_map, List.length_take] at h1; omega
          refine ap (news := fk ((⟨_, ho57⟩, (T.at 1).l[k]) : KE 15)) Tryz.underlying73 I148 rfl rfl pk0 (fun _ => (.tail (.tail .head))) (src_says Tryz.underlying73 rfl (fun _ => Says.own .head) (fk_one _)) (by omega) (by unfold maxLen; omega) rfl (fun a59 c59 N59 r59 z59 => ?_)
          rw [flatMap_snoc'] at r59
          have hin : a59.isNone = false := by cases a59 with | none => have := z59.1 rfl; omega | some _ => rfl
          refine dN (.skip (.keep (.skip (.keep (.keep (.keep .nil)))))) le_34 ?_
          refine dT 6 rfl rfl rfl (by kernel_rfl) (fun _ _ _ h => h) (y_fa0 F75_1 rfl) (.skip (.keep (.skip (.keep (.keep (.keep .nil)))))) le_34 ?_
          refine dE 7 (by kernel_rfl) rfl ?_
          refine st Tryz.sizeOf73 rfl rfl rfl rfl (.tail (.tail (.tail .head))) ?_
          refine dNk (by kernel_rfl) ?_
          refine dD (by kernel_rfl) ?_
          refine Nb ?_
          refine drN .head ?_
          refine drN .head ?_
          refine fun a_ w_ hA hw => ⟨_, _, _, hA.sub ?_, (le_24.trans le_34), hw, _, rfl, a59, _, c59, (es ++ [((⟨_, ho57⟩, (T.at 1).l[k]) : KE 15)]), N59, rfl, rfl, r59, (by simp; omega), (fun p hp => (mem_snoc hp).elim (fun h => At_TopologyDescriptionGlobalStore.mono _ _ _ _ le_34 (pk2 p h)) (fun h => h ▸ At_TopologyDescriptionGlobalStore.mono _ _ _ _ (Fz.le.refl _) gg57)), (map_take_snoc hk pk3), hin⟩
          exact (.cons rfl (.cons rfl (.cons rfl (.cons rfl (.cons rfl (.cons rfl (.nil _)))))))
        · skip
          obtain ⟨a, m, c_, es, N, rfl, rfl, pk0, pk1, pk2, pk3, pk4⟩ := hI
          refine toNn ?_
          have hm : m = (T.at 1).l.length := by have h1 := congrArg List.length pk3; rw [List.length_map, List.length_map, List.take_length] at h1; omega
          have hfe : es.map (·.2) = (T.at 1).l := by rw [pk3, List.take_length, List.map_id]
          refine frN pk0 .head (fun H2 hle2 hfz => ?_)
          have hrw := RowsAt.row (R := At_TopologyDescriptionGlobalStore) hfz pk1 pk0.le.1 (fun p hp => At_TopologyDescriptionGlobalStore.mono _ _ _ _ hle2 (pk2 p hp))
          rw [hfe, ← hlt] at hrw
          have hnl : m = (lT (T.at 1)).length := by rw [hlt]; exact hm
          have hla : ListAt H2 (T.at 1) 15 At_TopologyDescriptionGlobalStore a c_ := ⟨hrw, by rw [pk4, hnu]⟩
          refine fun a_ w_ hA hw => ⟨_, _, _, hA.sub ?_, (le_25.trans hle2), hw, a, m, c_, rfl, rfl, hnl, hla⟩
          exact (.cons rfl (.cons rfl (.cons rfl (.nil _))))
      · skip
        have hnu : (T.at 1).nul = true := by simpa using h39
        refine skN ?_
        refine fun a_ w_ hA hw => ⟨_, _, _, hA.sub ?_, (Fz.le.refl _), hw, none, 0, 0, rfl, rfl, (by rw [lT_nul hnu]; rfl), (ListAt.none hnu)⟩
        exact (.cons rfl (.cons rfl (.cons rfl (.nil _))))
    · skip
      obtain ⟨a1, n1, c1, rfl, rfl, pj0, pj1⟩ := hI
      subst pj0
      have hf1 := pj1
      refine sq ?_
      refine sr ?_
      refine fa0 F39_4 rfl rfl ?_
      refine ld (Says.own (.tail (.tail .head))) Tryz.isAgg37 rfl (Nat.zero_add _).symm rfl rfl ?_
      refine ls Tryz.runUnderlying37 rfl rfl ?_
      refine mv rfl rfl ?_
      refine nl ?_
      refine nulC2 ?_
      have hun := hf.un
      refine fr (T.u.length) (fun q l' H' L' => ∃ (m : Option Nat), ∃ (kvs : List KV), ∃ (M : Chunk), [(2, .pointer (some ⟨b_2, 0, none⟩)), (3, .pointer (some ⟨b_3, 0, none⟩)), (63, .slice c.ua T.u.length c.uc), (64, .int .i64 (T.u.length : Int))] = l' ∧ M :: [(b_3, .cells [.slice a0 (lT (T.at 0)).length c0, .slice a1 (lT (T.at 1)).length c1, .map m].toArray 75 (0, 0))] :: [(b_2, .cells [.slice none 0 0, .slice none 0 0, .map none].toArray 75 (0, 0))] :: [(b_1, .cells (c.cells T).toArray 39 (0, 0))] :: L = L' ∧ MapC m kvs M ∧ KvTo H' (T.u.take q) kvs) [(2, .pointer (some ⟨b_2, 0, none⟩)), (3, .pointer (some ⟨b_3, 0, none⟩)), (63, .slice c.ua T.u.length c.uc), (64, .int .i64 (T.u.length : Int))] (fun q l' H' L' h => ?_) (by omega) rfl (.cons rfl (.cons rfl (.cons rfl (.cons rfl (.nil _))))) ⟨none, [], [], rfl, rfl, MapC.nil, (KvTo.nil _)⟩ rfl rfl rfl rfl rfl (fun q l' H' L' hq le_36 hI => ?_) (fun l' H' L' le_37 hI => ?_)
      · obtain ⟨m, kvs, M, rfl, _⟩ := h; exact ⟨rfl, rfl, rfl, rfl⟩
      · skip
        obtain ⟨m, kvs, M, rfl, rfl, pq0, pq1⟩ := hI
        refine sr ?_
        obtain ⟨b_38, o_39, e_40, g_41⟩ := (hT.u.mono (le_5.trans (le_21.trans le_36))).at_ (ne_nil_of_lt hq)
        obtain ⟨c_42, q_43, q_44⟩ := g_41 q hq
        refine ix2 Tryz.runUnderlying37 Tryz.sizeOf65 rfl e_40 rfl rfl hq rfl ?_
        refine la (Says.fz q_43) Tryz.isAgg65 Tryz.sizeOf65 rfl (Nat.add_zero _).symm rfl rfl ?_
        refine al Tryz.zeroValue65 rfl rfl (fun b_45 => ?_)
        refine sa Tryz.sizeOf65 rfl rfl rfl rfl rfl .head ?_
        refine nl ?_
        refine rg ?_
        refine fa0 F75_2 rfl rfl ?_
        refine fa0 F65_0 rfl rfl ?_
        refine ld (Says.own .head) Tryz.isAgg62 rfl (Nat.zero_add _).symm rfl rfl ?_
        refine fa0 F65_1 rfl rfl ?_
        refine ld (Says.own .head) Tryz.isAgg22 rfl (Nat.zero_add _).symm rfl rfl ?_
        refine tf (.tail (.tail .head)) ?_
        refine tf (.tail (.tail .head)) ?_
        refine cl rfl rfl rfl (t_set (cs := [.slice a0 (lT (T.at 0)).length c0, .slice a1 (lT (T.at 1)).length c1, .map m]) (off := 2) pq0 rfl) rfl (fun v H1 L1 hle hR => ?_)
        obtain ⟨rfl, g74, cs74, hs74, rfl⟩ := hR
        obtain rfl : [.slice a0 (lT (T.at 0)).length c0, .slice a1 (lT (T.at 1)).length c1, .map (some g74)] = cs74 := Option.some.inj hs74
        refine nN ?_
        refine Nb ?_
        refine drN (.tail (.tail .head)) ?_
        refine fun a_ w_ hA hw => ⟨_, _, _, hA.sub ?_, le_36, hw, _, rfl, _, _, [(g74, _)], rfl, rfl, (.inr ⟨g74, rfl, rfl⟩), (KvTo.put hf.u (List.getElem?_eq_getElem hq) pq1 (⟨⟨_, _, rfl, q_44.val⟩, q_44.lo, q_44.hi⟩))⟩
        exact (.cons rfl (.cons rfl (.cons rfl (.cons rfl (.cons rfl (.nil _))))))
      · skip
        obtain ⟨m, kvs, M, rfl, rfl, pq0, pq1⟩ := hI
        refine toWp ?_
        rw [List.take_length] at pq1
        refine frMW pq0 .head (fun H3 hle3 hmf => ?_)
        have hft := KvTo.at_ hf.u (pq1.mono hle3) hmf
        refine sr ?_
        refine la (Says.own .head) Tryz.isAgg75 Tryz.sizeOf75 rfl (Nat.zero_add _).symm rfl rfl ?_
        refine sa Tryz.sizeOf75 rfl rfl rfl rfl rfl (.tail .head) ?_
        refine nl ?_
        refine drW .head ?_
        refine drW (.tail .head) ?_
        exact rC rfl Tryz.isAgg75 Tryz.sizeOf75 rfl .head rfl (le_5.trans (le_21.trans (le_37.trans hle3))) (fun _ _ h => h) ⟨rfl, _, rfl, ⟨a0, c0, a1, c1, m, rfl, (hf0.mono At_TopologyDescriptionSubtopology.mono (le_21.trans (le_37.trans hle3))), (hf1.mono At_TopologyDescriptionGlobalStore.mono (le_37.trans hle3)), hft⟩⟩
theorem fill_StreamsGroupTopologyDescriptionUpdateRequest {H : Fz} {L : Own} {b : Nat} {ver : Int} {c : TC} {T : Tr} (hT : TreeAt H c T) (hf : Fine T) :
    Fn Tryz.prog 42 [.pointer (some ⟨b, 0, none⟩), .agg (c.cells T).toArray] H ([(b, .cells [.int .i16 ver, .string ⟨#[]⟩, .string ⟨#[]⟩, .int .i32 0, .slice none 0 0, .slice none 0 0, .map none, .map none].toArray 77 (0, 0))] :: L) (fun _ H' L' => ∃ cs : List Value, L' = [(b, .cells cs.toArray 77 (0, 0))] :: L ∧ At_StreamsGroupTopologyDescriptionUpdateRequest ver H' T cs) := by
  refine Fn.mk Tryz.call42 Tryz.func42 rfl Tryz.ntmps42 rfl ?_
  refine sr ?_
  refine bx rfl rfl rfl (fun b_1 => ?_)
  refine nl ?_
  refine sr ?_
  refine mv rfl rfl ?_
  refine la (Says.own .head) Tryz.isAgg39 Tryz.sizeOf39 rfl (Nat.zero_add _).symm rfl rfl ?_
  refine cl rfl rfl rfl (m_at (i := 0) hT) rfl (fun v H1 L1 hle hR => ?_)
  obtain ⟨rfl, rfl, c8, rfl, g8⟩ := hR
  refine fc C39_1 rfl rfl rfl ?_
  refine cbS Tryz.underlying22 Tryz.underlying5 Tryz.underlying9 rfl g8.s rfl rfl ?_
  refine nc rfl rfl ?_
  refine fa0 F77_1 rfl rfl ?_
  refine st Tryz.sizeOf9 rfl rfl rfl rfl (.tail .head) ?_
  refine nl ?_
  refine sr ?_
  refine mv rfl rfl ?_
  refine la (Says.own .head) Tryz.isAgg39 Tryz.sizeOf39 rfl (Nat.zero_add _).symm rfl rfl ?_
  refine cl rfl rfl rfl (m_at (i := 1) hT) rfl (fun v H1 L1 hle hR => ?_)
  obtain ⟨rfl, rfl, c15, rfl, g15⟩ := hR
  refine fc C39_1 rfl rfl rfl ?_
  refine cbS Tryz.underlying22 Tryz.underlying5 Tryz.underlying9 rfl g15.s rfl rfl ?_
  refine nc rfl rfl ?_
  refine fa0 F77_2 rfl rfl ?_
  refine st Tryz.sizeOf9 rfl rfl rfl rfl (.tail .head) ?_
  refine nl ?_
  refine sr ?_
  refine mv rfl rfl ?_
  refine la (Says.own .head) Tryz.isAgg39 Tryz.sizeOf39 rfl (Nat.zero_add _).symm rfl rfl ?_
  refine cl rfl rfl rfl (m_at (i := 2) hT) rfl (fun v H1 L1 hle hR => ?_)
  obtain ⟨rfl, rfl, c22, rfl, g22⟩ := hR
  refine fc C39_0 rfl rfl rfl ?_
  refine cv Tryz.runUnderlying2 Tryz.runUnderlying21 rfl rfl rfl ?_
  refine nc rfl rfl ?_
  refine fa0 F77_3 rfl rfl ?_
  refine st Tryz.sizeOf21 rfl rfl rfl rfl (.tail .head) ?_
  refine nl ?_
  refine sr ?_
  refine mv rfl rfl ?_
  refine la (Says.own .head) Tryz.isAgg39 Tryz.sizeOf39 rfl (Nat.zero_add _).symm rfl rfl ?_
  refine cl rfl rfl rfl (m_at (i := 3) hT) rfl (fun v H1 L1 hle hR => ?_)
  obtain ⟨rfl, rfl, c29, rfl, g29⟩ := hR
  refine cl rfl rfl rfl (make_TopologyDescription g29 (hf.at 3)) rfl (fun v H1 L1 le_6 hR => ?_)
  obtain ⟨rfl, cs30, rfl, g30⟩ := hR
  obtain ⟨a3_0, c3_0, a3_1, c3_1, m3_t, rfl, hf3_0, hf3_1, hf3_2⟩ := g30
  refine nc rfl rfl ?_
  refine fa0 F77_4 rfl rfl ?_
  refine sa Tryz.sizeOf75 rfl rfl rfl rfl rfl (.tail .head) ?_
  refine nl ?_
  refine sr ?_
  refine fa0 F39_4 rfl rfl ?_
  refine ld (Says.own .head) Tryz.isAgg37 rfl (Nat.zero_add _).symm rfl rfl ?_
  refine ls Tryz.runUnderlying37 rfl rfl ?_
  refine mv rfl rfl ?_
  refine nl ?_
  refine nulC2 ?_
  have hun := hf.un
  refine fr (T.u.length) (fun q l' H' L' => ∃ (m : Option Nat), ∃ (kvs : List KV), ∃ (M : Chunk), [(0, .pointer (some ⟨b, 0, none⟩)), (34, .slice c.ua T.u.length c.uc), (35, .int .i64 (T.u.length : Int))] = l' ∧ M :: [(b_1, .cells (c.cells T).toArray 39 (0, 0))] :: [(b, .cells [.int .i16 ver, .string ⟨(T.at 0).s.toArray⟩, .string ⟨(T.at 1).s.toArray⟩, .int .i32 (IntKind.i32.wrap (T.at 2).n), .slice a3_0 (lT ((T.at 3).at 0)).length c3_0, .slice a3_1 (lT ((T.at 3).at 1)).length c3_1, .map m3_t, .map m].toArray 77 (0, 0))] :: L = L' ∧ MapC m kvs M ∧ KvTo H' (T.u.take q) kvs) [(0, .pointer (some ⟨b, 0, none⟩)), (34, .slice c.ua T.u.length c.uc), (35, .int .i64 (T.u.length : Int))] (fun q l' H' L' h => ?_) (by omega) rfl (.cons rfl (.cons rfl (.cons rfl (.nil _)))) ⟨none, [], [], rfl, rfl, MapC.nil, (KvTo.nil _)⟩ rfl rfl rfl rfl rfl (fun q l' H' L' hq le_7 hI => ?_) (fun l' H' L' le_8 hI => ?_)
  · obtain ⟨m, kvs, M, rfl, _⟩ := h; exact ⟨rfl, rfl, rfl, rfl⟩
  · skip
    obtain ⟨m, kvs, M, rfl, rfl, pq0, pq1⟩ := hI
    refine sr ?_
    obtain ⟨b_9, o_10, e_11, g_12⟩ := (hT.u.mono (le_6.trans le_7)).at_ (ne_nil_of_lt hq)
    obtain ⟨c_13, q_14, q_15⟩ := g_12 q hq
    refine ix2 Tryz.runUnderlying37 Tryz.sizeOf65 rfl e_11 rfl rfl hq rfl ?_
    refine la (Says.fz q_14) Tryz.isAgg65 Tryz.sizeOf65 rfl (Nat.add_zero _).symm rfl rfl ?_
    refine al Tryz.zeroValue65 rfl rfl (fun b_16 => ?_)
    refine sa Tryz.sizeOf65 rfl rfl rfl rfl rfl .head ?_
    refine nl ?_
    refine rgD 8 (.keep (.skip (.keep .nil))) mixed ?_
    refine dT 0 rfl rfl rfl (by kernel_rfl) (fun _ _ _ h => h) (y_mv rfl) (.keep (.skip (.keep .nil))) (Fz.le.refl _) ?_
    refine dT 1 rfl rfl rfl (by kernel_rfl) (fun _ _ _ h => h) (y_nc rfl) (.keep (.skip (.keep .nil))) (Fz.le.refl _) ?_
    refine dT 2 rfl rfl rfl (by kernel_rfl) (fun _ _ _ h => h) (y_fa0 F77_5 rfl) (.keep (.skip (.keep .nil))) (Fz.le.refl _) ?_
    refine dT 3 rfl rfl rfl (by kernel_rfl) (fun _ _ _ h => h) (y_fa0 F65_0 rfl) (.keep (.skip (.keep .nil))) (Fz.le.refl _) ?_
    refine dT 4 rfl rfl rfl (by kernel_rfl) (fun _ _ _ h => h) (y_ld (Says.own .head) Tryz.isAgg62 rfl (Nat.zero_add _).symm rfl) (.keep (.skip (.keep .nil))) (Fz.le.refl _) ?_
    refine dT 5 rfl rfl rfl (by kernel_rfl) (fun _ _ _ h => h) (y_fa0 F65_1 rfl) (.keep (.skip (.keep .nil))) (Fz.le.refl _) ?_
    refine dT 6 rfl rfl rfl (by kernel_rfl) (fun _ _ _ h => h) (y_ld (Says.own .head) Tryz.isAgg22 rfl (Nat.zero_add _).symm rfl) (.keep (.skip (.keep .nil))) (Fz.le.refl _) ?_
    refine dE 7 (by kernel_rfl) rfl ?_
    refine tf (.tail (.tail (.tail .head))) ?_
    refine tf (.tail (.tail .head)) ?_
    refine cl rfl rfl rfl (t_set (cs := [.int .i16 ver, .string ⟨(T.at 0).s.toArray⟩, .string ⟨(T.at 1).s.toArray⟩, .int .i32 (IntKind.i32.wrap (T.at 2).n), .slice a3_0 (lT ((T.at 3).at 0)).length c3_0, .slice a3_1 (lT ((T.at 3).at 1)).length c3_1, .map m3_t, .map m]) (off := 7) pq0 rfl) rfl (fun v H1 L1 hle hR => ?_)
    obtain ⟨rfl, g47, cs47, hs47, rfl⟩ := hR
    obtain rfl : [.int .i16 ver, .string ⟨(T.at 0).s.toArray⟩, .string ⟨(T.at 1).s.toArray⟩, .int .i32 (IntKind.i32.wrap (T.at 2).n), .slice a3_0 (lT ((T.at 3).at 0)).length c3_0, .slice a3_1 (lT ((T.at 3).at 1)).length c3_1, .map m3_t, .map (some g47)] = cs47 := Option.some.inj hs47
    refine dN (.skip (.skip (.keep (.keep .nil)))) (Fz.le.refl _) ?_
    refine dD (by kernel_rfl) ?_
    refine Nb ?_
    refine drN (.tail (.tail .head)) ?_
    refine tfN (.tail .head) ?_
    refine tfN (.tail (.tail .head)) ?_
    refine tfN (.tail (.tail .head)) ?_
    refine fun a_ w_ hA hw => ⟨_, _, _, hA.sub ?_, le_7, hw, _, rfl, _, _, [(g47, _)], rfl, rfl, (.inr ⟨g47, rfl, rfl⟩), (KvTo.put hf.u (List.getElem?_eq_getElem hq) pq1 (⟨⟨_, _, rfl, q_15.val⟩, q_15.lo, q_15.hi⟩))⟩
    exact (.cons rfl (.cons rfl (.cons rfl (.cons rfl (.nil _)))))
  · skip
    obtain ⟨m, kvs, M, rfl, rfl, pq0, pq1⟩ := hI
    refine toNn ?_
    rw [List.take_length] at pq1
    refine frMN pq0 .head (fun H3 hle3 hmf => ?_)
    have hft := KvTo.at_ hf.u (pq1.mono hle3) hmf
    refine drN .head ?_
    exact fun _ _ hA hw => rn rfl (le_6.trans (le_8.trans hle3)) ⟨_, rfl, ⟨a3_0, c3_0, a3_1, c3_1, m3_t, m, rfl, (hf3_0.mono At_TopologyDescriptionSubtopology.mono (le_8.trans hle3)), (hf3_1.mono At_TopologyDescriptionGlobalStore.mono (le_8.trans hle3)), (hf3_2.mono (le_8.trans hle3)), hft⟩⟩ hA hw
end Go.Sx

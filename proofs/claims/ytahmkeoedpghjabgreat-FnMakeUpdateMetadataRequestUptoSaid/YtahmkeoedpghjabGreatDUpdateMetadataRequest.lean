import Derived.Test.YtahmkeoedpghjabGreatBUpdateMetadataRequest
import Derived.Test.YtahmkeoedpghjabGreatD0
import Derived.KernelRfl
set_option linter.unusedVariables false
set_option linter.unusedSimpArgs false
set_option maxRecDepth 100000
set_option maxHeartbeats 20000000
namespace Go.Sx
open Go.Proofs
theorem make_UpdateMetadataRequestTopicPartition {H : Fz} {L : Own} {c : TC} {T : Tr} (hT : TreeAt H c T) (hf : Fine T) :
    Fn Tryz.prog 94 [.agg (c.cells T).toArray] H L (fun v H' L' => L = L' ∧ ∃ cs : List Value, v = .agg cs.toArray ∧ At_UpdateMetadataRequestTopicPartition H' T cs) := by
  refine Fn.mk Tryz.call94 Tryz.func94 rfl Tryz.ntmps94 rfl ?_
  refine sr ?_
  refine bx rfl rfl rfl (fun b_1 => ?_)
  refine al Tryz.zeroValue151 rfl rfl (fun b_2 => ?_)
  refine nl ?_
  refine sr ?_
  refine al Tryz.zeroValue151 rfl rfl (fun b_3 => ?_)
  refine nl ?_
  refine sr ?_
  refine la (Says.own (.tail (.tail .head))) Tryz.isAgg39 Tryz.sizeOf39 rfl (Nat.zero_add _).symm rfl rfl ?_
  refine cl rfl rfl rfl (m_at (i := 0) hT) rfl (fun v H1 L1 hle hR => ?_)
  obtain ⟨rfl, rfl, c13, rfl, g13⟩ := hR
  refine fc C39_1 rfl rfl rfl ?_
  refine cbS Tryz.underlying22 Tryz.underlying5 Tryz.underlying9 rfl g13.s rfl rfl ?_
  refine fa0 F151_0 rfl rfl ?_
  refine st Tryz.sizeOf9 rfl rfl rfl rfl .head ?_
  refine nl ?_
  refine sr ?_
  refine la (Says.own (.tail (.tail .head))) Tryz.isAgg39 Tryz.sizeOf39 rfl (Nat.zero_add _).symm rfl rfl ?_
  refine cl rfl rfl rfl (m_at (i := 1) hT) rfl (fun v H1 L1 hle hR => ?_)
  obtain ⟨rfl, rfl, c18, rfl, g18⟩ := hR
  refine fc C39_0 rfl rfl rfl ?_
  refine cv Tryz.runUnderlying2 Tryz.runUnderlying21 rfl rfl rfl ?_
  refine fa0 F151_1 rfl rfl ?_
  refine st Tryz.sizeOf21 rfl rfl rfl rfl .head ?_
  refine nl ?_
  refine sr ?_
  refine la (Says.own (.tail (.tail .head))) Tryz.isAgg39 Tryz.sizeOf39 rfl (Nat.zero_add _).symm rfl rfl ?_
  refine cl rfl rfl rfl (m_at (i := 2) hT) rfl (fun v H1 L1 hle hR => ?_)
  obtain ⟨rfl, rfl, c23, rfl, g23⟩ := hR
  refine fc C39_0 rfl rfl rfl ?_
  refine cv Tryz.runUnderlying2 Tryz.runUnderlying21 rfl rfl rfl ?_
  refine fa0 F151_2 rfl rfl ?_
  refine st Tryz.sizeOf21 rfl rfl rfl rfl .head ?_
  refine nl ?_
  refine sr ?_
  refine la (Says.own (.tail (.tail .head))) Tryz.isAgg39 Tryz.sizeOf39 rfl (Nat.zero_add _).symm rfl rfl ?_
  refine cl rfl rfl rfl (m_at (i := 3) hT) rfl (fun v H1 L1 hle hR => ?_)
  obtain ⟨rfl, rfl, c28, rfl, g28⟩ := hR
  refine fc C39_0 rfl rfl rfl ?_
  refine cv Tryz.runUnderlying2 Tryz.runUnderlying21 rfl rfl rfl ?_
  refine fa0 F151_3 rfl rfl ?_
  refine st Tryz.sizeOf21 rfl rfl rfl rfl .head ?_
  refine nl ?_
  refine sr ?_
  refine la (Says.own (.tail (.tail .head))) Tryz.isAgg39 Tryz.sizeOf39 rfl (Nat.zero_add _).symm rfl rfl ?_
  refine cl rfl rfl rfl (m_at (i := 4) hT) rfl (fun v H1 L1 hle hR => ?_)
  obtain ⟨rfl, rfl, c33, rfl, g33⟩ := hR
  refine fc C39_0 rfl rfl rfl ?_
  refine cv Tryz.runUnderlying2 Tryz.runUnderlying21 rfl rfl rfl ?_
  refine fa0 F151_4 rfl rfl ?_
  refine st Tryz.sizeOf21 rfl rfl rfl rfl .head ?_
  refine nl ?_
  refine sq ?_
  refine sr ?_
  refine la (Says.own (.tail (.tail .head))) Tryz.isAgg39 Tryz.sizeOf39 rfl (Nat.zero_add _).symm rfl rfl ?_
  refine cl rfl rfl rfl (m_at (i := 5) hT) rfl (fun v H1 L1 hle hR => ?_)
  obtain ⟨rfl, rfl, c38, rfl, g38⟩ := hR
  refine fc C39_2 rfl rfl rfl ?_
  refine nt rfl rfl ?_
  refine nl ?_
  refine cutT (fun l' H' L' => ∃ (a5 : Option Addr), ∃ (n5 : Nat), ∃ (c5 : Nat), [(1, .pointer (some ⟨b_1, 0, none⟩)), (2, .pointer (some ⟨b_2, 0, none⟩)), (3, .pointer (some ⟨b_3, 0, none⟩))] = l' ∧ [(b_3, .cells [.string ⟨(T.at 0).s.toArray⟩, .int .i32 (IntKind.i32.wrap (T.at 1).n), .int .i32 (IntKind.i32.wrap (T.at 2).n), .int .i32 (IntKind.i32.wrap (T.at 3).n), .int .i32 (IntKind.i32.wrap (T.at 4).n), .slice a5 n5 c5, .int .i32 0, .slice none 0 0, .slice none 0 0, .map none].toArray 151 (0, 0))] :: [(b_2, .cells [.string ⟨#[]⟩, .int .i32 0, .int .i32 0, .int .i32 0, .int .i32 0, .slice none 0 0, .int .i32 0, .slice none 0 0, .slice none 0 0, .map none].toArray 151 (0, 0))] :: [(b_1, .cells (c.cells T).toArray 39 (0, 0))] :: L = L' ∧ n5 = (lT (T.at 5)).length ∧ ListAt H' (T.at 5) 1 RI32 a5 c5) ?_ (fun l' H' L' le_10 hI => ?_)
  · skip
    refine cb rfl (fun h40 => ?_) (fun h40 => ?_)
    · skip
      have hnu : (T.at 5).nul = false := by simpa using h40
      have hlt : lT (T.at 5) = (T.at 5).l := lT_not hnu
      have hfl := (hf.at 5).len
      refine sr ?_
      refine la (Says.own (.tail (.tail .head))) Tryz.isAgg39 Tryz.sizeOf39 rfl (Nat.zero_add _).symm rfl rfl ?_
      refine cl rfl rfl rfl (m_at (i := 5) hT) rfl (fun v H1 L1 hle hR => ?_)
      obtain ⟨rfl, rfl, c42, rfl, g42⟩ := hR
      refine fc C39_3 rfl rfl rfl ?_
      refine ls Tryz.runUnderlying36 rfl rfl ?_
      refine mks (m := 0) (c := (T.at 5).l.length) (zs := [.int .i32 0]) Tryz.underlying149 I21 rfl rfl rfl rfl rfl (by omega) (by omega) (by unfold maxLen; omega) rfl (fun bm45 N45 r45 => ?_)
      refine fa0 F151_5 rfl rfl ?_
      refine st Tryz.sizeOf149 rfl rfl rfl rfl (.tail .head) ?_
      refine nl ?_
      refine sr ?_
      refine la (Says.own (.tail (.tail (.tail .head)))) Tryz.isAgg39 Tryz.sizeOf39 rfl (Nat.zero_add _).symm rfl rfl ?_
      refine cl rfl rfl rfl (m_at (i := 5) hT) rfl (fun v H1 L1 hle hR => ?_)
      obtain ⟨rfl, rfl, c48, rfl, g48⟩ := hR
      refine fc C39_3 rfl rfl rfl ?_
      refine ls Tryz.runUnderlying36 rfl rfl ?_
      refine mv rfl rfl ?_
      refine nl ?_
      refine fr ((T.at 5).l.length) (fun k l' H' L' => ∃ (a : Option Addr), ∃ (m : Nat), ∃ (c_ : Nat), ∃ (es : List (KE 1)), ∃ (N : Chunk), [(1, .pointer (some ⟨b_1, 0, none⟩)), (2, .pointer (some ⟨b_2, 0, none⟩)), (3, .pointer (some ⟨b_3, 0, none⟩)), (49, .slice c48.la (T.at 5).l.length c48.lc), (50, .int .i64 ((T.at 5).l.length : Int))] = l' ∧ N :: [(b_3, .cells [.string ⟨(T.at 0).s.toArray⟩, .int .i32 (IntKind.i32.wrap (T.at 1).n), .int .i32 (IntKind.i32.wrap (T.at 2).n), .int .i32 (IntKind.i32.wrap (T.at 3).n), .int .i32 (IntKind.i32.wrap (T.at 4).n), .slice a m c_, .int .i32 0, .slice none 0 0, .slice none 0 0, .map none].toArray 151 (0, 0))] :: [(b_2, .cells [.string ⟨#[]⟩, .int .i32 0, .int .i32 0, .int .i32 0, .int .i32 0, .slice none 0 0, .int .i32 0, .slice none 0 0, .slice none 0 0, .map none].toArray 151 (0, 0))] :: [(b_1, .cells (c.cells T).toArray 39 (0, 0))] :: L = L' ∧ Row 21 1 a m c_ (es.flatMap fk) N ∧ m = es.length ∧ (∀ p : KE 1, p ∈ es → RI32 H' p.2 (fk p)) ∧ es.map (·.2) = ((T.at 5).l.take k).map id ∧ a.isNone = false) [(1, .pointer (some ⟨b_1, 0, none⟩)), (2, .pointer (some ⟨b_2, 0, none⟩)), (3, .pointer (some ⟨b_3, 0, none⟩)), (49, .slice c48.la (T.at 5).l.length c48.lc), (50, .int .i64 ((T.at 5).l.length : Int))] (fun k l' H' L' h => ?_) (by omega) rfl (.cons rfl (.cons rfl (.cons rfl (.cons rfl (.cons rfl (.nil _)))))) ⟨some ⟨bm45, 0, none⟩, 0, _, [], N45, rfl, rfl, r45, rfl, (fun p hp => by cases hp), (by simp), rfl⟩ rfl rfl rfl rfl rfl (fun k l' H' L' hk le_13 hI => ?_) (fun l' H' L' le_14 hI => ?_)
      · obtain ⟨a, m, c_, es, N, rfl, _⟩ := h; exact ⟨rfl, rfl, rfl, rfl⟩
      · skip
        obtain ⟨a, m, c_, es, N, rfl, rfl, pk0, pk1, pk2, pk3, pk4⟩ := hI
        refine sr ?_
        obtain ⟨b_15, o_16, e_17, g_18⟩ := (g48.l.mono le_13).at_ (ne_nil_of_lt hk)
        obtain ⟨c_19, q_20, q_21⟩ := g_18 k hk
        refine ix2 Tryz.runUnderlying36 Tryz.sizeOf39 rfl e_17 rfl rfl hk rfl ?_
        refine la (Says.fz q_20) Tryz.isAgg39 Tryz.sizeOf39 rfl (Nat.add_zero _).symm rfl rfl ?_
        refine al Tryz.zeroValue39 rfl rfl (fun b_22 => ?_)
        refine sa Tryz.sizeOf39 rfl rfl rfl rfl rfl .head ?_
        refine nl ?_
        refine rg ?_
        refine fa0 F151_5 rfl rfl ?_
        refine ld (Says.own (.tail (.tail .head))) Tryz.isAgg149 rfl (Nat.zero_add _).symm rfl rfl ?_
        refine fa0 F39_0 rfl rfl ?_
        refine ld (Says.own .head) Tryz.isAgg2 rfl (Nat.zero_add _).symm rfl rfl ?_
        refine cv Tryz.runUnderlying2 Tryz.runUnderlying21 rfl rfl rfl ?_
        refine bs' L149 rfl rfl rfl rfl (fun b_23 => ?_)
        have hmk : m = k := by have h1 := congrArg List.length pk3; rw [List.length_map, List.length_map, List.length_take] at h1; omega
        refine ap (news := fk ((⟨[.int .i32 (IntKind.i32.wrap ((T.at 5).l[k]).n)], rfl, by simp [Value.oneCell', u16, ub]⟩, (T.at 5).l[k]) : KE 1)) Tryz.underlying149 I21 rfl rfl pk0 (fun _ => (.tail (.tail .head))) (src_says Tryz.underlying149 rfl (fun _ => Says.own .head) (fk_one _)) (by omega) (by unfold maxLen; omega) rfl (fun a61 c61 N61 r61 z61 => ?_)
        rw [flatMap_snoc'] at r61
        have hin : a61.isNone = false := by cases a61 with | none => have := z61.1 rfl; omega | some _ => rfl
        refine fa0 F151_5 rfl rfl ?_
        refine st Tryz.sizeOf149 rfl rfl rfl rfl (.tail (.tail (.tail .head))) ?_
        refine nN ?_
        refine Nb ?_
        refine drN .head ?_
        refine drN .head ?_
        refine fun a_ w_ hA hw => ⟨_, _, _, hA.sub ?_, le_13, hw, _, rfl, a61, _, c61, (es ++ [((⟨[.int .i32 (IntKind.i32.wrap ((T.at 5).l[k]).n)], rfl, by simp [Value.oneCell', u16, ub]⟩, (T.at 5).l[k]) : KE 1)]), N61, rfl, rfl, r61, (by simp; omega), (fun p hp => (mem_snoc hp).elim (fun h => RI32.mono _ _ _ _ (Fz.le.refl _) (pk2 p h)) (fun h => h ▸ RI32.mono _ _ _ _ (Fz.le.refl _) (rfl : RI32 _ _ _))), (map_take_snoc hk pk3), hin⟩
        exact (.cons rfl (.cons rfl (.cons rfl (.cons rfl (.cons rfl (.cons rfl (.nil _)))))))
      · skip
        obtain ⟨a, m, c_, es, N, rfl, rfl, pk0, pk1, pk2, pk3, pk4⟩ := hI
        refine toNn ?_
        have hm : m = (T.at 5).l.length := by have h1 := congrArg List.length pk3; rw [List.length_map, List.length_map, List.take_length] at h1; omega
        have hfe : es.map (·.2) = (T.at 5).l := by rw [pk3, List.take_length, List.map_id]
        refine frN pk0 .head (fun H2 hle2 hfz => ?_)
        have hrw := RowsAt.row (R := RI32) hfz pk1 pk0.le.1 (fun p hp => RI32.mono _ _ _ _ hle2 (pk2 p hp))
        rw [hfe, ← hlt] at hrw
        have hnl : m = (lT (T.at 5)).length := by rw [hlt]; exact hm
        have hla : ListAt H2 (T.at 5) 1 RI32 a c_ := ⟨hrw, by rw [pk4, hnu]⟩
        refine fun a_ w_ hA hw => ⟨_, _, _, hA.sub ?_, (le_14.trans hle2), hw, a, m, c_, rfl, rfl, hnl, hla⟩
        exact (.cons rfl (.cons rfl (.cons rfl (.nil _))))
    · skip
      have hnu : (T.at 5).nul = true := by simpa using h40
      refine skN ?_
      refine fun a_ w_ hA hw => ⟨_, _, _, hA.sub ?_, (Fz.le.refl _), hw, none, 0, 0, rfl, rfl, (by rw [lT_nul hnu]; rfl), (ListAt.none hnu)⟩
      exact (.cons rfl (.cons rfl (.cons rfl (.nil _))))
  · skip
    obtain ⟨a5, n5, c5, rfl, rfl, pj0, pj1⟩ := hI
    subst pj0
    have hf5 := pj1
    refine sr ?_
    refine la (Says.own (.tail (.tail .head))) Tryz.isAgg39 Tryz.sizeOf39 rfl (Nat.zero_add _).symm rfl rfl ?_
    refine cl rfl rfl rfl (m_at (i := 6) (hT.mono le_10)) rfl (fun v H1 L1 hle hR => ?_)
    obtain ⟨rfl, rfl, c65, rfl, g65⟩ := hR
    refine fc C39_0 rfl rfl rfl ?_
    refine cv Tryz.runUnderlying2 Tryz.runUnderlying21 rfl rfl rfl ?_
    refine fa0 F151_6 rfl rfl ?_
    refine st Tryz.sizeOf21 rfl rfl rfl rfl .head ?_
    refine nl ?_
    refine sq ?_
    refine sr ?_
    refine la (Says.own (.tail (.tail .head))) Tryz.isAgg39 Tryz.sizeOf39 rfl (Nat.zero_add _).symm rfl rfl ?_
    refine cl rfl rfl rfl (m_at (i := 7) (hT.mono le_10)) rfl (fun v H1 L1 hle hR => ?_)
    obtain ⟨rfl, rfl, c70, rfl, g70⟩ := hR
    refine fc C39_2 rfl rfl rfl ?_
    refine nt rfl rfl ?_
    refine nl ?_
    refine cutT (fun l' H' L' => ∃ (a7 : Option Addr), ∃ (n7 : Nat), ∃ (c7 : Nat), [(1, .pointer (some ⟨b_1, 0, none⟩)), (2, .pointer (some ⟨b_2, 0, none⟩)), (3, .pointer (some ⟨b_3, 0, none⟩))] = l' ∧ [(b_3, .cells [.string ⟨(T.at 0).s.toArray⟩, .int .i32 (IntKind.i32.wrap (T.at 1).n), .int .i32 (IntKind.i32.wrap (T.at 2).n), .int .i32 (IntKind.i32.wrap (T.at 3).n), .int .i32 (IntKind.i32.wrap (T.at 4).n), .slice a5 (lT (T.at 5)).length c5, .int .i32 (IntKind.i32.wrap (T.at 6).n), .slice a7 n7 c7, .slice none 0 0, .map none].toArray 151 (0, 0))] :: [(b_2, .cells [.string ⟨#[]⟩, .int .i32 0, .int .i32 0, .int .i32 0, .int .i32 0, .slice none 0 0, .int .i32 0, .slice none 0 0, .slice none 0 0, .map none].toArray 151 (0, 0))] :: [(b_1, .cells (c.cells T).toArray 39 (0, 0))] :: L = L' ∧ n7 = (lT (T.at 7)).length ∧ ListAt H' (T.at 7) 1 RI32 a7 c7) ?_ (fun l' H' L' le_26 hI => ?_)
    · skip
      refine cb rfl (fun h72 => ?_) (fun h72 => ?_)
      · skip
        have hnu : (T.at 7).nul = false := by simpa using h72
        have hlt : lT (T.at 7) = (T.at 7).l := lT_not hnu
        have hfl := (hf.at 7).len
        refine sr ?_
        refine la (Says.own (.tail (.tail .head))) Tryz.isAgg39 Tryz.sizeOf39 rfl (Nat.zero_add _).symm rfl rfl ?_
        refine cl rfl rfl rfl (m_at (i := 7) (hT.mono le_10)) rfl (fun v H1 L1 hle hR => ?_)
        obtain ⟨rfl, rfl, c74, rfl, g74⟩ := hR
        refine fc C39_3 rfl rfl rfl ?_
        refine ls Tryz.runUnderlying36 rfl rfl ?_
        refine mks (m := 0) (c := (T.at 7).l.length) (zs := [.int .i32 0]) Tryz.underlying149 I21 rfl rfl rfl rfl rfl (by omega) (by omega) (by unfold maxLen; omega) rfl (fun bm77 N77 r77 => ?_)
        refine fa0 F151_7 rfl rfl ?_
        refine st Tryz.sizeOf149 rfl rfl rfl rfl (.tail .head) ?_
        refine nl ?_
        refine sr ?_
        refine la (Says.own (.tail (.tail (.tail .head)))) Tryz.isAgg39 Tryz.sizeOf39 rfl (Nat.zero_add _).symm rfl rfl ?_
        refine cl rfl rfl rfl (m_at (i := 7) (hT.mono le_10)) rfl (fun v H1 L1 hle hR => ?_)
        obtain ⟨rfl, rfl, c80, rfl, g80⟩ := hR
        refine fc C39_3 rfl rfl rfl ?_
        refine ls Tryz.runUnderlying36 rfl rfl ?_
        refine mv rfl rfl ?_
        refine nl ?_
        refine fr ((T.at 7).l.length) (fun k l' H' L' => ∃ (a : Option Addr), ∃ (m : Nat), ∃ (c_ : Nat), ∃ (es : List (KE 1)), ∃ (N : Chunk), [(1, .pointer (some ⟨b_1, 0, none⟩)), (2, .pointer (some ⟨b_2, 0, none⟩)), (3, .pointer (some ⟨b_3, 0, none⟩)), (81, .slice c80.la (T.at 7).l.length c80.lc), (82, .int .i64 ((T.at 7).l.length : Int))] = l' ∧ N :: [(b_3, .cells [.string ⟨(T.at 0).s.toArray⟩, .int .i32 (IntKind.i32.wrap (T.at 1).n), .int .i32 (IntKind.i32.wrap (T.at 2).n), .int .i32 (IntKind.i32.wrap (T.at 3).n), .int .i32 (IntKind.i32.wrap (T.at 4).n), .slice a5 (lT (T.at 5)).length c5, .int .i32 (IntKind.i32.wrap (T.at 6).n), .slice a m c_, .slice none 0 0, .map none].toArray 151 (0, 0))] :: [(b_2, .cells [.string ⟨#[]⟩, .int .i32 0, .int .i32 0, .int .i32 0, .int .i32 0, .slice none 0 0, .int .i32 0, .slice none 0 0, .slice none 0 0, .map none].toArray 151 (0, 0))] :: [(b_1, .cells (c.cells T).toArray 39 (0, 0))] :: L = L' ∧ Row 21 1 a m c_ (es.flatMap fk) N ∧ m = es.length ∧ (∀ p : KE 1, p ∈ es → RI32 H' p.2 (fk p)) ∧ es.map (·.2) = ((T.at 7).l.take k).map id ∧ a.isNone = false) [(1, .pointer (some ⟨b_1, 0, none⟩)), (2, .pointer (some ⟨b_2, 0, none⟩)), (3, .pointer (some ⟨b_3, 0, none⟩)), (81, .slice c80.la (T.at 7).l.length c80.lc), (82, .int .i64 ((T.at 7).l.length : Int))] (fun k l' H' L' h => ?_) (by omega) rfl (.cons rfl (.cons rfl (.cons rfl (.cons rfl (.cons rfl (.nil _)))))) ⟨some ⟨bm77, 0, none⟩, 0, _, [], N77, rfl, rfl, r77, rfl, (fun p hp => by cases hp), (by simp), rfl⟩ rfl rfl rfl rfl rfl (fun k l' H' L' hk le_29 hI => ?_) (fun l' H' L' le_30 hI => ?_)
        · obtain ⟨a, m, c_, es, N, rfl, _⟩ := h; exact ⟨rfl, rfl, rfl, rfl⟩
        · skip
          obtain ⟨a, m, c_, es, N, rfl, rfl, pk0, pk1, pk2, pk3, pk4⟩ := hI
          refine sr ?_
          obtain ⟨b_31, o_32, e_33, g_34⟩ := (g80.l.mono le_29).at_ (ne_nil_of_lt hk)
          obtain ⟨c_35, q_36, q_37⟩ := g_34 k hk
          refine ix2 Tryz.runUnderlying36 Tryz.sizeOf39 rfl e_33 rfl rfl hk rfl ?_
          refine la (Says.fz q_36) Tryz.isAgg39 Tryz.sizeOf39 rfl (Nat.add_zero _).symm rfl rfl ?_
          refine al Tryz.zeroValue39 rfl rfl (fun b_38 => ?_)
          refine sa Tryz.sizeOf39 rfl rfl rfl rfl rfl .head ?_
          refine nl ?_
          refine rg ?_
          refine fa0 F151_7 rfl rfl ?_
          refine ld (Says.own (.tail (.tail .head))) Tryz.isAgg149 rfl (Nat.zero_add _).symm rfl rfl ?_
          refine fa0 F39_0 rfl rfl ?_
          refine ld (Says.own .head) Tryz.isAgg2 rfl (Nat.zero_add _).symm rfl rfl ?_
          refine cv Tryz.runUnderlying2 Tryz.runUnderlying21 rfl rfl rfl ?_
          refine bs' L149 rfl rfl rfl rfl (fun b_39 => ?_)
          have hmk : m = k := by have h1 := congrArg List.length pk3; rw [List.length_map, List.length_map, List.length_take] at h1; omega
          refine ap (news := fk ((⟨[.int .i32 (IntKind.i32.wrap ((T.at 7).l[k]).n)], rfl, by simp [Value.oneCell', u16, ub]⟩, (T.at 7).l[k]) : KE 1)) Tryz.underlying149 I21 rfl rfl pk0 (fun _ => (.tail (.tail .head))) (src_says Tryz.underlying149 rfl (fun _ => Says.own .head) (fk_one _)) (by omega) (by unfold maxLen; omega) rfl (fun a93 c93 N93 r93 z93 => ?_)
          rw [flatMap_snoc'] at r93
          have hin : a93.isNone = false := by cases a93 with | none => have := z93.1 rfl; omega | some _ => rfl
          refine fa0 F151_7 rfl rfl ?_
          refine st Tryz.sizeOf149 rfl rfl rfl rfl (.tail (.tail (.tail .head))) ?_
          refine nN ?_
          refine Nb ?_
          refine drN .head ?_
          refine drN .head ?_
          refine fun a_ w_ hA hw => ⟨_, _, _, hA.sub ?_, le_29, hw, _, rfl, a93, _, c93, (es ++ [((⟨[.int .i32 (IntKind.i32.wrap ((T.at 7).l[k]).n)], rfl, by simp [Value.oneCell', u16, ub]⟩, (T.at 7).l[k]) : KE 1)]), N93, rfl, rfl, r93, (by simp; omega), (fun p hp => (mem_snoc hp).elim (fun h => RI32.mono _ _ _ _ (Fz.le.refl _) (pk2 p h)) (fun h => h ▸ RI32.mono _ _ _ _ (Fz.le.refl _) (rfl : RI32 _ _ _))), (map_take_snoc hk pk3), hin⟩
          exact (.cons rfl (.cons rfl (.cons rfl (.cons rfl (.cons rfl (.cons rfl (.nil _)))))))
        · skip
          obtain ⟨a, m, c_, es, N, rfl, rfl, pk0, pk1, pk2, pk3, pk4⟩ := hI
          refine toNn ?_
          have hm : m = (T.at 7).l.length := by have h1 := congrArg List.length pk3; rw [List.length_map, List.length_map, List.take_length] at h1; omega
          have hfe : es.map (·.2) = (T.at 7).l := by rw [pk3, List.take_length, List.map_id]
          refine frN pk0 .head (fun H2 hle2 hfz => ?_)
          have hrw := RowsAt.row (R := RI32) hfz pk1 pk0.le.1 (fun p hp => RI32.mono _ _ _ _ hle2 (pk2 p hp))
          rw [hfe, ← hlt] at hrw
          have hnl : m = (lT (T.at 7)).length := by rw [hlt]; exact hm
          have hla : ListAt H2 (T.at 7) 1 RI32 a c_ := ⟨hrw, by rw [pk4, hnu]⟩
          refine fun a_ w_ hA hw => ⟨_, _, _, hA.sub ?_, (le_30.trans hle2), hw, a, m, c_, rfl, rfl, hnl, hla⟩
          exact (.cons rfl (.cons rfl (.cons rfl (.nil _))))
      · skip
        have hnu : (T.at 7).nul = true := by simpa using h72
        refine skN ?_
        refine fun a_ w_ hA hw => ⟨_, _, _, hA.sub ?_, (Fz.le.refl _), hw, none, 0, 0, rfl, rfl, (by rw [lT_nul hnu]; rfl), (ListAt.none hnu)⟩
        exact (.cons rfl (.cons rfl (.cons rfl (.nil _))))
    · skip
      obtain ⟨a7, n7, c7, rfl, rfl, pj0, pj1⟩ := hI
      subst pj0
      have hf7 := pj1
      refine sq ?_
      refine sr ?_
      refine la (Says.own (.tail (.tail .head))) Tryz.isAgg39 Tryz.sizeOf39 rfl (Nat.zero_add _).symm rfl rfl ?_
      refine cl rfl rfl rfl (m_at (i := 8) (hT.mono (le_10.trans le_26))) rfl (fun v H1 L1 hle hR => ?_)
      obtain ⟨rfl, rfl, c97, rfl, g97⟩ := hR
      refine fc C39_2 rfl rfl rfl ?_
      refine nt rfl rfl ?_
      refine nl ?_
      refine cutT (fun l' H' L' => ∃ (a8 : Option Addr), ∃ (n8 : Nat), ∃ (c8 : Nat), [(1, .pointer (some ⟨b_1, 0, none⟩)), (2, .pointer (some ⟨b_2, 0, none⟩)), (3, .pointer (some ⟨b_3, 0, none⟩))] = l' ∧ [(b_3, .cells [.string ⟨(T.at 0).s.toArray⟩, .int .i32 (IntKind.i32.wrap (T.at 1).n), .int .i32 (IntKind.i32.wrap (T.at 2).n), .int .i32 (IntKind.i32.wrap (T.at 3).n), .int .i32 (IntKind.i32.wrap (T.at 4).n), .slice a5 (lT (T.at 5)).length c5, .int .i32 (IntKind.i32.wrap (T.at 6).n), .slice a7 (lT (T.at 7)).length c7, .slice a8 n8 c8, .map none].toArray 151 (0, 0))] :: [(b_2, .cells [.string ⟨#[]⟩, .int .i32 0, .int .i32 0, .int .i32 0, .int .i32 0, .slice none 0 0, .int .i32 0, .slice none 0 0, .slice none 0 0, .map none].toArray 151 (0, 0))] :: [(b_1, .cells (c.cells T).toArray 39 (0, 0))] :: L = L' ∧ n8 = (lT (T.at 8)).length ∧ ListAt H' (T.at 8) 1 RI32 a8 c8) ?_ (fun l' H' L' le_41 hI => ?_)
      · skip
        refine cb rfl (fun h99 => ?_) (fun h99 => ?_)
        · skip
          have hnu : (T.at 8).nul = false := by simpa using h99
          have hlt : lT (T.at 8) = (T.at 8).l := lT_not hnu
          have hfl := (hf.at 8).len
          refine sr ?_
          refine la (Says.own (.tail (.tail .head))) Tryz.isAgg39 Tryz.sizeOf39 rfl (Nat.zero_add _).symm rfl rfl ?_
          refine cl rfl rfl rfl (m_at (i := 8) (hT.mono (le_10.trans le_26))) rfl (fun v H1 L1 hle hR => ?_)
          obtain ⟨rfl, rfl, c101, rfl, g101⟩ := hR
          refine fc C39_3 rfl rfl rfl ?_
          refine ls Tryz.runUnderlying36 rfl rfl ?_
          refine mks (m := 0) (c := (T.at 8).l.length) (zs := [.int .i32 0]) Tryz.underlying149 I21 rfl rfl rfl rfl rfl (by omega) (by omega) (by unfold maxLen; omega) rfl (fun bm104 N104 r104 => ?_)
          refine fa0 F151_8 rfl rfl ?_
          refine st Tryz.sizeOf149 rfl rfl rfl rfl (.tail .head) ?_
          refine nl ?_
          refine sr ?_
          refine la (Says.own (.tail (.tail (.tail .head)))) Tryz.isAgg39 Tryz.sizeOf39 rfl (Nat.zero_add _).symm rfl rfl ?_
          refine cl rfl rfl rfl (m_at (i := 8) (hT.mono (le_10.trans le_26))) rfl (fun v H1 L1 hle hR => ?_)
          obtain ⟨rfl, rfl, c107, rfl, g107⟩ := hR
          refine fc C39_3 rfl rfl rfl ?_
          refine ls Tryz.runUnderlying36 rfl rfl ?_
          refine mv rfl rfl ?_
          refine nl ?_
          refine fr ((T.at 8).l.length) (fun k l' H' L' => ∃ (a : Option Addr), ∃ (m : Nat), ∃ (c_ : Nat), ∃ (es : List (KE 1)), ∃ (N : Chunk), [(1, .pointer (some ⟨b_1, 0, none⟩)), (2, .pointer (some ⟨b_2, 0, none⟩)), (3, .pointer (some ⟨b_3, 0, none⟩)), (108, .slice c107.la (T.at 8).l.length c107.lc), (109, .int .i64 ((T.at 8).l.length : Int))] = l' ∧ N :: [(b_3, .cells [.string ⟨(T.at 0).s.toArray⟩, .int .i32 (IntKind.i32.wrap (T.at 1).n), .int .i32 (IntKind.i32.wrap (T.at 2).n), .int .i32 (IntKind.i32.wrap (T.at 3).n), .int .i32 (IntKind.i32.wrap (T.at 4).n), .slice a5 (lT (T.at 5)).length c5, .int .i32 (IntKind.i32.wrap (T.at 6).n), .slice a7 (lT (T.at 7)).length c7, .slice a m c_, .map none].toArray 151 (0, 0))] :: [(b_2, .cells [.string ⟨#[]⟩, .int .i32 0, .int .i32 0, .int .i32 0, .int .i32 0, .slice none 0 0, .int .i32 0, .slice none 0 0, .slice none 0 0, .map none].toArray 151 (0, 0))] :: [(b_1, .cells (c.cells T).toArray 39 (0, 0))] :: L = L' ∧ Row 21 1 a m c_ (es.flatMap fk) N ∧ m = es.length ∧ (∀ p : KE 1, p ∈ es → RI32 H' p.2 (fk p)) ∧ es.map (·.2) = ((T.at 8).l.take k).map id ∧ a.isNone = false) [(1, .pointer (some ⟨b_1, 0, none⟩)), (2, .pointer (some ⟨b_2, 0, none⟩)), (3, .pointer (some ⟨b_3, 0, none⟩)), (108, .slice c107.la (T.at 8).l.length c107.lc), (109, .int .i64 ((T.at 8).l.length : Int))] (fun k l' H' L' h => ?_) (by omega) rfl (.cons rfl (.cons rfl (.cons rfl (.cons rfl (.cons rfl (.nil _)))))) ⟨some ⟨bm104, 0, none⟩, 0, _, [], N104, rfl, rfl, r104, rfl, (fun p hp => by cases hp), (by simp), rfl⟩ rfl rfl rfl rfl rfl (fun k l' H' L' hk le_44 hI => ?_) (fun l' H' L' le_45 hI => ?_)
          · obtain ⟨a, m, c_, es, N, rfl, _⟩ := h; exact ⟨rfl, rfl, rfl, rfl⟩
          · skip
            obtain ⟨a, m, c_, es, N, rfl, rfl, pk0, pk1, pk2, pk3, pk4⟩ := hI
            refine sr ?_
            obtain ⟨b_46, o_47, e_48, g_49⟩ := (g107.l.mono le_44).at_ (ne_nil_of_lt hk)
            obtain ⟨c_50, q_51, q_52⟩ := g_49 k hk
            refine ix2 Tryz.runUnderlying36 Tryz.sizeOf39 rfl e_48 rfl rfl hk rfl ?_
            refine la (Says.fz q_51) Tryz.isAgg39 Tryz.sizeOf39 rfl (Nat.add_zero _).symm rfl rfl ?_
            refine al Tryz.zeroValue39 rfl rfl (fun b_53 => ?_)
            refine sa Tryz.sizeOf39 rfl rfl rfl rfl rfl .head ?_
            refine nl ?_
            refine rg ?_
            refine fa0 F151_8 rfl rfl ?_
            refine ld (Says.own (.tail (.tail .head))) Tryz.isAgg149 rfl (Nat.zero_add _).symm rfl rfl ?_
            refine fa0 F39_0 rfl rfl ?_
            refine ld (Says.own .head) Tryz.isAgg2 rfl (Nat.zero_add _).symm rfl rfl ?_
            refine cv Tryz.runUnderlying2 Tryz.runUnderlying21 rfl rfl rfl ?_
            refine bs' L149 rfl rfl rfl rfl (fun b_54 => ?_)
            have hmk : m = k := by have h1 := congrArg List.length pk3; rw [List.length_map, List.length_map, List.length_take] at h1; omega
            refine ap (news := fk ((⟨[.int .i32 (IntKind.i32.wrap ((T.at 8).l[k]).n)], rfl, by simp [Value.oneCell', u16, ub]⟩, (T.at 8).l[k]) : KE 1)) Tryz.underlying149 I21 rfl rfl pk0 (fun _ => (.tail (.tail .head))) (src_says Tryz.underlying149 rfl (fun _ => Says.own .head) (fk_one _)) (by omega) (by unfold maxLen; omega) rfl (fun a120 c120 N120 r120 z120 => ?_)
            rw [flatMap_snoc'] at r120
            have hin : a120.isNone = false := by cases a120 with | none => have := z120.1 rfl; omega | some _ => rfl
            refine fa0 F151_8 rfl rfl ?_
            refine st Tryz.sizeOf149 rfl rfl rfl rfl (.tail (.tail (.tail .head))) ?_
            refine nN ?_
            refine Nb ?_
            refine drN .head ?_
            refine drN .head ?_
            refine fun a_ w_ hA hw => ⟨_, _, _, hA.sub ?_, le_44, hw, _, rfl, a120, _, c120, (es ++ [((⟨[.int .i32 (IntKind.i32.wrap ((T.at 8).l[k]).n)], rfl, by simp [Value.oneCell', u16, ub]⟩, (T.at 8).l[k]) : KE 1)]), N120, rfl, rfl, r120, (by simp; omega), (fun p hp => (mem_snoc hp).elim (fun h => RI32.mono _ _ _ _ (Fz.le.refl _) (pk2 p h)) (fun h => h ▸ RI32.mono _ _ _ _ (Fz.le.refl _) (rfl : RI32 _ _ _))), (map_take_snoc hk pk3), hin⟩
            exact (.cons rfl (.cons rfl (.cons rfl (.cons rfl (.cons rfl (.cons rfl (.nil _)))))))
          · skip
            obtain ⟨a, m, c_, es, N, rfl, rfl, pk0, pk1, pk2, pk3, pk4⟩ := hI
            refine toNn ?_
            have hm : m = (T.at 8).l.length := by have h1 := congrArg List.length pk3; rw [List.length_map, List.length_map, List.take_length] at h1; omega
            have hfe : es.map (·.2) = (T.at 8).l := by rw [pk3, List.take_length, List.map_id]
            refine frN pk0 .head (fun H2 hle2 hfz => ?_)
            have hrw := RowsAt.row (R := RI32) hfz pk1 pk0.le.1 (fun p hp => RI32.mono _ _ _ _ hle2 (pk2 p hp))
            rw [hfe, ← hlt] at hrw
            have hnl : m = (lT (T.at 8)).length := by rw [hlt]; exact hm
            have hla : ListAt H2 (T.at 8) 1 RI32 a c_ := ⟨hrw, by rw [pk4, hnu]⟩
            refine fun a_ w_ hA hw => ⟨_, _, _, hA.sub ?_, (le_45.trans hle2), hw, a, m, c_, rfl, rfl, hnl, hla⟩
            exact (.cons rfl (.cons rfl (.cons rfl (.nil _))))
        · skip
          have hnu : (T.at 8).nul = true := by simpa using h99
          refine skN ?_
          refine fun a_ w_ hA hw => ⟨_, _, _, hA.sub ?_, (Fz.le.refl _), hw, none, 0, 0, rfl, rfl, (by rw [lT_nul hnu]; rfl), (ListAt.none hnu)⟩
          exact (.cons rfl (.cons rfl (.cons rfl (.nil _))))
      · skip
        obtain ⟨a8, n8, c8, rfl, rfl, pj0, pj1⟩ := hI
        subst pj0
        have hf8 := pj1
        refine sq ?_
        refine sr ?_
        refine fa0 F39_4 rfl rfl ?_
        refine ld (Says.own (.tail (.tail .head))) Tryz.isAgg37 rfl (Nat.zero_add _).symm rfl rfl ?_
        refine ls Tryz.runUnderlying37 rfl rfl ?_
        refine mv rfl rfl ?_
        refine nl ?_
        refine nulC2 ?_
        have hun := hf.un
        refine fr (T.u.length) (fun q l' H' L' => ∃ (m : Option Nat), ∃ (kvs : List KV), ∃ (M : Chunk), [(2, .pointer (some ⟨b_2, 0, none⟩)), (3, .pointer (some ⟨b_3, 0, none⟩)), (124, .slice c.ua T.u.length c.uc), (125, .int .i64 (T.u.length : Int))] = l' ∧ M :: [(b_3, .cells [.string ⟨(T.at 0).s.toArray⟩, .int .i32 (IntKind.i32.wrap (T.at 1).n), .int .i32 (IntKind.i32.wrap (T.at 2).n), .int .i32 (IntKind.i32.wrap (T.at 3).n), .int .i32 (IntKind.i32.wrap (T.at 4).n), .slice a5 (lT (T.at 5)).length c5, .int .i32 (IntKind.i32.wrap (T.at 6).n), .slice a7 (lT (T.at 7)).length c7, .slice a8 (lT (T.at 8)).length c8, .map m].toArray 151 (0, 0))] :: [(b_2, .cells [.string ⟨#[]⟩, .int .i32 0, .int .i32 0, .int .i32 0, .int .i32 0, .slice none 0 0, .int .i32 0, .slice none 0 0, .slice none 0 0, .map none].toArray 151 (0, 0))] :: [(b_1, .cells (c.cells T).toArray 39 (0, 0))] :: L = L' ∧ MapC m kvs M ∧ KvTo H' (T.u.take q) kvs) [(2, .pointer (some ⟨b_2, 0, none⟩)), (3, .pointer (some ⟨b_3, 0, none⟩)), (124, .slice c.ua T.u.length c.uc), (125, .int .i64 (T.u.length : Int))] (fun q l' H' L' h => ?_) (by omega) rfl (.cons rfl (.cons rfl (.cons rfl (.cons rfl (.nil _))))) ⟨none, [], [], rfl, rfl, MapC.nil, (KvTo.nil _)⟩ rfl rfl rfl rfl rfl (fun q l' H' L' hq le_55 hI => ?_) (fun l' H' L' le_56 hI => ?_)
        · obtain ⟨m, kvs, M, rfl, _⟩ := h; exact ⟨rfl, rfl, rfl, rfl⟩
        · skip
          obtain ⟨m, kvs, M, rfl, rfl, pq0, pq1⟩ := hI
          refine sr ?_
          obtain ⟨b_57, o_58, e_59, g_60⟩ := (hT.u.mono (le_10.trans (le_26.trans (le_41.trans le_55)))).at_ (ne_nil_of_lt hq)
          obtain ⟨c_61, q_62, q_63⟩ := g_60 q hq
          refine ix2 Tryz.runUnderlying37 Tryz.sizeOf65 rfl e_59 rfl rfl hq rfl ?_
          refine la (Says.fz q_62) Tryz.isAgg65 Tryz.sizeOf65 rfl (Nat.add_zero _).symm rfl rfl ?_
          refine al Tryz.zeroValue65 rfl rfl (fun b_64 => ?_)
          refine sa Tryz.sizeOf65 rfl rfl rfl rfl rfl .head ?_
          refine nl ?_
          refine rg ?_
          refine fa0 F151_9 rfl rfl ?_
          refine fa0 F65_0 rfl rfl ?_
          refine ld (Says.own .head) Tryz.isAgg62 rfl (Nat.zero_add _).symm rfl rfl ?_
          refine fa0 F65_1 rfl rfl ?_
          refine ld (Says.own .head) Tryz.isAgg22 rfl (Nat.zero_add _).symm rfl rfl ?_
          refine tf (.tail (.tail .head)) ?_
          refine tf (.tail (.tail .head)) ?_
          refine cl rfl rfl rfl (t_set (cs := [.string ⟨(T.at 0).s.toArray⟩, .int .i32 (IntKind.i32.wrap (T.at 1).n), .int .i32 (IntKind.i32.wrap (T.at 2).n), .int .i32 (IntKind.i32.wrap (T.at 3).n), .int .i32 (IntKind.i32.wrap (T.at 4).n), .slice a5 (lT (T.at 5)).length c5, .int .i32 (IntKind.i32.wrap (T.at 6).n), .slice a7 (lT (T.at 7)).length c7, .slice a8 (lT (T.at 8)).length c8, .map m]) (off := 9) pq0 rfl) rfl (fun v H1 L1 hle hR => ?_)
          obtain ⟨rfl, g135, cs135, hs135, rfl⟩ := hR
          obtain rfl : [.string ⟨(T.at 0).s.toArray⟩, .int .i32 (IntKind.i32.wrap (T.at 1).n), .int .i32 (IntKind.i32.wrap (T.at 2).n), .int .i32 (IntKind.i32.wrap (T.at 3).n), .int .i32 (IntKind.i32.wrap (T.at 4).n), .slice a5 (lT (T.at 5)).length c5, .int .i32 (IntKind.i32.wrap (T.at 6).n), .slice a7 (lT (T.at 7)).length c7, .slice a8 (lT (T.at 8)).length c8, .map (some g135)] = cs135 := Option.some.inj hs135
          refine nN ?_
          refine Nb ?_
          refine drN (.tail (.tail .head)) ?_
          refine fun a_ w_ hA hw => ⟨_, _, _, hA.sub ?_, le_55, hw, _, rfl, _, _, [(g135, _)], rfl, rfl, (.inr ⟨g135, rfl, rfl⟩), (KvTo.put hf.u (List.getElem?_eq_getElem hq) pq1 (⟨⟨_, _, rfl, q_63.val⟩, q_63.lo, q_63.hi⟩))⟩
          exact (.cons rfl (.cons rfl (.cons rfl (.cons rfl (.cons rfl (.nil _))))))
        · skip
          obtain ⟨m, kvs, M, rfl, rfl, pq0, pq1⟩ := hI
          refine toWp ?_
          rw [List.take_length] at pq1
          refine frMW pq0 .head (fun H3 hle3 hmf => ?_)
          have hft := KvTo.at_ hf.u (pq1.mono hle3) hmf
          refine sr ?_
          refine la (Says.own .head) Tryz.isAgg151 Tryz.sizeOf151 rfl (Nat.zero_add _).symm rfl rfl ?_
          refine sa Tryz.sizeOf151 rfl rfl rfl rfl rfl (.tail .head) ?_
          refine nl ?_
          refine drW .head ?_
          refine drW (.tail .head) ?_
          exact rC rfl Tryz.isAgg151 Tryz.sizeOf151 rfl .head rfl (le_10.trans (le_26.trans (le_41.trans (le_56.trans hle3)))) (fun _ _ h => h) ⟨rfl, _, rfl, ⟨a5, c5, a7, c7, a8, c8, m, rfl, (hf5.mono RI32.mono (le_26.trans (le_41.trans (le_56.trans hle3)))), (hf7.mono RI32.mono (le_41.trans (le_56.trans hle3))), (hf8.mono RI32.mono (le_56.trans hle3)), hft⟩⟩
theorem make_UpdateMetadataRequestTopicState {H : Fz} {L : Own} {c : TC} {T : Tr} (hT : TreeAt H c T) (hf : Fine T) :
    Fn Tryz.prog 95 [.agg (c.cells T).toArray] H L (fun v H' L' => L = L' ∧ ∃ cs : List Value, v = .agg cs.toArray ∧ At_UpdateMetadataRequestTopicState H' T cs) := by
  refine Fn.mk Tryz.call95 Tryz.func95 rfl Tryz.ntmps95 rfl ?_
  refine sr ?_
  refine bx rfl rfl rfl (fun b_1 => ?_)
  refine al Tryz.zeroValue154 rfl rfl (fun b_2 => ?_)
  refine nl ?_
  refine sr ?_
  refine al Tryz.zeroValue154 rfl rfl (fun b_3 => ?_)
  refine nl ?_
  refine sr ?_
  refine la (Says.own (.tail (.tail .head))) Tryz.isAgg39 Tryz.sizeOf39 rfl (Nat.zero_add _).symm rfl rfl ?_
  refine cl rfl rfl rfl (m_at (i := 0) hT) rfl (fun v H1 L1 hle hR => ?_)
  obtain ⟨rfl, rfl, c9, rfl, g9⟩ := hR
  refine fc C39_1 rfl rfl rfl ?_
  refine cbS Tryz.underlying22 Tryz.underlying5 Tryz.underlying9 rfl g9.s rfl rfl ?_
  refine fa0 F154_0 rfl rfl ?_
  refine st Tryz.sizeOf9 rfl rfl rfl rfl .head ?_
  refine nl ?_
  refine sr ?_
  refine la (Says.own (.tail (.tail .head))) Tryz.isAgg39 Tryz.sizeOf39 rfl (Nat.zero_add _).symm rfl rfl ?_
  refine cl rfl rfl rfl (m_at (i := 1) hT) rfl (fun v H1 L1 hle hR => ?_)
  obtain ⟨rfl, rfl, c14, rfl, g14⟩ := hR
  refine fc C39_1 rfl rfl rfl ?_
  refine cl rfl rfl rfl (m_sixteen g14.s) rfl (fun v H1 L1 hle hR => ?_)
  obtain ⟨rfl, rfl, rfl⟩ := hR
  refine fa0 F154_1 rfl rfl ?_
  refine sa Tryz.sizeOf119 rfl rfl rfl rfl rfl .head ?_
  refine nl ?_
  refine sq ?_
  refine sr ?_
  refine la (Says.own (.tail (.tail .head))) Tryz.isAgg39 Tryz.sizeOf39 rfl (Nat.zero_add _).symm rfl rfl ?_
  refine cl rfl rfl rfl (m_at (i := 2) hT) rfl (fun v H1 L1 hle hR => ?_)
  obtain ⟨rfl, rfl, c19, rfl, g19⟩ := hR
  refine fc C39_2 rfl rfl rfl ?_
  refine nt rfl rfl ?_
  refine nl ?_
  refine cutT (fun l' H' L' => ∃ (a2 : Option Addr), ∃ (n2 : Nat), ∃ (c2 : Nat), [(1, .pointer (some ⟨b_1, 0, none⟩)), (2, .pointer (some ⟨b_2, 0, none⟩)), (3, .pointer (some ⟨b_3, 0, none⟩))] = l' ∧ [(b_3, .cells [.string ⟨(T.at 0).s.toArray⟩, ub (T.at 1).s 0, ub (T.at 1).s 1, ub (T.at 1).s 2, ub (T.at 1).s 3, ub (T.at 1).s 4, ub (T.at 1).s 5, ub (T.at 1).s 6, ub (T.at 1).s 7, ub (T.at 1).s 8, ub (T.at 1).s 9, ub (T.at 1).s 10, ub (T.at 1).s 11, ub (T.at 1).s 12, ub (T.at 1).s 13, ub (T.at 1).s 14, ub (T.at 1).s 15, .slice a2 n2 c2, .map none].toArray 154 (0, 0))] :: [(b_2, .cells [.string ⟨#[]⟩, .int .u8 0, .int .u8 0, .int .u8 0, .int .u8 0, .int .u8 0, .int .u8 0, .int .u8 0, .int .u8 0, .int .u8 0, .int .u8 0, .int .u8 0, .int .u8 0, .int .u8 0, .int .u8 0, .int .u8 0, .int .u8 0, .slice none 0 0, .map none].toArray 154 (0, 0))] :: [(b_1, .cells (c.cells T).toArray 39 (0, 0))] :: L = L' ∧ n2 = (lT (T.at 2)).length ∧ ListAt H' (T.at 2) 10 At_UpdateMetadataRequestTopicPartition a2 c2) ?_ (fun l' H' L' le_8 hI => ?_)
  · skip
    refine cb rfl (fun h21 => ?_) (fun h21 => ?_)
    · skip
      have hnu : (T.at 2).nul = false := by simpa using h21
      have hlt : lT (T.at 2) = (T.at 2).l := lT_not hnu
      have hfl := (hf.at 2).len
      refine sr ?_
      refine la (Says.own (.tail (.tail .head))) Tryz.isAgg39 Tryz.sizeOf39 rfl (Nat.zero_add _).symm rfl rfl ?_
      refine cl rfl rfl rfl (m_at (i := 2) hT) rfl (fun v H1 L1 hle hR => ?_)
      obtain ⟨rfl, rfl, c23, rfl, g23⟩ := hR
      refine fc C39_3 rfl rfl rfl ?_
      refine ls Tryz.runUnderlying36 rfl rfl ?_
      refine mks (m := 0) (c := (T.at 2).l.length) (zs := [.string ⟨#[]⟩, .int .i32 0, .int .i32 0, .int .i32 0, .int .i32 0, .slice none 0 0, .int .i32 0, .slice none 0 0, .slice none 0 0, .map none]) Tryz.underlying81 I151 rfl rfl rfl rfl rfl (by omega) (by omega) (by unfold maxLen; omega) rfl (fun bm26 N26 r26 => ?_)
      refine fa0 F154_2 rfl rfl ?_
      refine st Tryz.sizeOf81 rfl rfl rfl rfl (.tail .head) ?_
      refine nl ?_
      refine sr ?_
      refine la (Says.own (.tail (.tail (.tail .head)))) Tryz.isAgg39 Tryz.sizeOf39 rfl (Nat.zero_add _).symm rfl rfl ?_
      refine cl rfl rfl rfl (m_at (i := 2) hT) rfl (fun v H1 L1 hle hR => ?_)
      obtain ⟨rfl, rfl, c29, rfl, g29⟩ := hR
      refine fc C39_3 rfl rfl rfl ?_
      refine ls Tryz.runUnderlying36 rfl rfl ?_
      refine mv rfl rfl ?_
      refine nl ?_
      refine fr ((T.at 2).l.length) (fun k l' H' L' => ∃ (a : Option Addr), ∃ (m : Nat), ∃ (c_ : Nat), ∃ (es : List (KE 10)), ∃ (N : Chunk), [(1, .pointer (some ⟨b_1, 0, none⟩)), (2, .pointer (some ⟨b_2, 0, none⟩)), (3, .pointer (some ⟨b_3, 0, none⟩)), (30, .slice c29.la (T.at 2).l.length c29.lc), (31, .int .i64 ((T.at 2).l.length : Int))] = l' ∧ N :: [(b_3, .cells [.string ⟨(T.at 0).s.toArray⟩, ub (T.at 1).s 0, ub (T.at 1).s 1, ub (T.at 1).s 2, ub (T.at 1).s 3, ub (T.at 1).s 4, ub (T.at 1).s 5, ub (T.at 1).s 6, ub (T.at 1).s 7, ub (T.at 1).s 8, ub (T.at 1).s 9, ub (T.at 1).s 10, ub (T.at 1).s 11, ub (T.at 1).s 12, ub (T.at 1).s 13, ub (T.at 1).s 14, ub (T.at 1).s 15, .slice a m c_, .map none].toArray 154 (0, 0))] :: [(b_2, .cells [.string ⟨#[]⟩, .int .u8 0, .int .u8 0, .int .u8 0, .int .u8 0, .int .u8 0, .int .u8 0, .int .u8 0, .int .u8 0, .int .u8 0, .int .u8 0, .int .u8 0, .int .u8 0, .int .u8 0, .int .u8 0, .int .u8 0, .int .u8 0, .slice none 0 0, .map none].toArray 154 (0, 0))] :: [(b_1, .cells (c.cells T).toArray 39 (0, 0))] :: L = L' ∧ Row 151 10 a m c_ (es.flatMap fk) N ∧ m = es.length ∧ (∀ p : KE 10, p ∈ es → At_UpdateMetadataRequestTopicPartition H' p.2 (fk p)) ∧ es.map (·.2) = ((T.at 2).l.take k).map id ∧ a.isNone = false) [(1, .pointer (some ⟨b_1, 0, none⟩)), (2, .pointer (some ⟨b_2, 0, none⟩)), (3, .pointer (some ⟨b_3, 0, none⟩)), (30, .slice c29.la (T.at 2).l.length c29.lc), (31, .int .i64 ((T.at 2).l.length : Int))] (fun k l' H' L' h => ?_) (by omega) rfl (.cons rfl (.cons rfl (.cons rfl (.cons rfl (.cons rfl (.nil _)))))) ⟨some ⟨bm26, 0, none⟩, 0, _, [], N26, rfl, rfl, r26, rfl, (fun p hp => by cases hp), (by simp), rfl⟩ rfl rfl rfl rfl rfl (fun k l' H' L' hk le_11 hI => ?_) (fun l' H' L' le_12 hI => ?_)
      · obtain ⟨a, m, c_, es, N, rfl, _⟩ := h; exact ⟨rfl, rfl, rfl, rfl⟩
      · skip
        obtain ⟨a, m, c_, es, N, rfl, rfl, pk0, pk1, pk2, pk3, pk4⟩ := hI
        refine sr ?_
        obtain ⟨b_13, o_14, e_15, g_16⟩ := (g29.l.mono le_11).at_ (ne_nil_of_lt hk)
        obtain ⟨c_17, q_18, q_19⟩ := g_16 k hk
        refine ix2 Tryz.runUnderlying36 Tryz.sizeOf39 rfl e_15 rfl rfl hk rfl ?_
        refine la (Says.fz q_18) Tryz.isAgg39 Tryz.sizeOf39 rfl (Nat.add_zero _).symm rfl rfl ?_
        refine al Tryz.zeroValue39 rfl rfl (fun b_20 => ?_)
        refine sa Tryz.sizeOf39 rfl rfl rfl rfl rfl .head ?_
        refine nl ?_
        refine rgD 7 (.keep (.skip (.keep (.keep (.keep .nil))))) mixed ?_
        refine dT 0 rfl rfl rfl (by kernel_rfl) (fun _ _ _ h => h) (y_fa0 F154_2 rfl) (.keep (.skip (.keep (.keep (.keep .nil))))) (Fz.le.refl _) ?_
        refine dT 1 rfl rfl rfl (by kernel_rfl) (fun _ _ _ h => h) (y_ld (Says.own (.tail .head)) Tryz.isAgg81 rfl (Nat.zero_add _).symm rfl) (.keep (.skip (.keep (.keep (.keep .nil))))) (Fz.le.refl _) ?_
        refine dT 2 rfl rfl rfl (by kernel_rfl) (fun _ _ _ h => h) (y_la (Says.own .head) Tryz.isAgg39 Tryz.sizeOf39 rfl (Nat.zero_add _).symm rfl) (.keep (.skip (.keep (.keep (.keep .nil))))) (Fz.le.refl _) ?_
        refine dE 3 (by kernel_rfl) rfl ?_
        refine cl rfl rfl rfl (make_UpdateMetadataRequestTopicPartition q_19 ((hf.at 2).el (List.getElem_mem hk))) rfl (fun v H1 L1 le_21 hR => ?_)
        obtain ⟨rfl, cs39, rfl, g39⟩ := hR
        have ho39 := At_UpdateMetadataRequestTopicPartition.ok g39
        have gg39 := g39
        obtain ⟨a5e, c5e, a7e, c7e, a8e, c8e, mte, rfl, he0, he1, he2, he3⟩ := g39
        refine dN (.keep (.skip (.keep (.keep (.keep .nil))))) le_21 ?_
        refine dE 4 (by kernel_rfl) rfl ?_
        refine bs' L81 rfl rfl rfl rfl (fun b_22 => ?_)
        refine dN (.skip (.keep (.skip (.keep (.keep (.keep .nil)))))) le_21 ?_
        refine dE 5 (by kernel_rfl) rfl ?_
        have hmk : m = k := by have h1 := congrArg List.length pk3; rw [List.length_map, List.length_map, List.length_take] at h1; omega
        refine ap (news := fk ((⟨_, ho39⟩, (T.at 2).l[k]) : KE 10)) Tryz.underlying81 I151 rfl rfl pk0 (fun _ => (.tail (.tail .head))) (src_says Tryz.underlying81 rfl (fun _ => Says.own .head) (fk_one _)) (by omega) (by unfold maxLen; omega) rfl (fun a41 c41 N41 r41 z41 => ?_)
        rw [flatMap_snoc'] at r41
        have hin : a41.isNone = false := by cases a41 with | none => have := z41.1 rfl; omega | some _ => rfl
        refine dN (.skip (.keep (.skip (.keep (.keep (.keep .nil)))))) le_21 ?_
        refine dT 6 rfl rfl rfl (by kernel_rfl) (fun _ _ _ h => h) (y_fa0 F154_2 rfl) (.skip (.keep (.skip (.keep (.keep (.keep .nil)))))) le_21 ?_
        refine dE 7 (by kernel_rfl) rfl ?_
        refine st Tryz.sizeOf81 rfl rfl rfl rfl (.tail (.tail (.tail .head))) ?_
        refine dNk (by kernel_rfl) ?_
        refine dD (by kernel_rfl) ?_
        refine Nb ?_
        refine drN .head ?_
        refine drN .head ?_
        refine fun a_ w_ hA hw => ⟨_, _, _, hA.sub ?_, (le_11.trans le_21), hw, _, rfl, a41, _, c41, (es ++ [((⟨_, ho39⟩, (T.at 2).l[k]) : KE 10)]), N41, rfl, rfl, r41, (by simp; omega), (fun p hp => (mem_snoc hp).elim (fun h => At_UpdateMetadataRequestTopicPartition.mono _ _ _ _ le_21 (pk2 p h)) (fun h => h ▸ At_UpdateMetadataRequestTopicPartition.mono _ _ _ _ (Fz.le.refl _) gg39)), (map_take_snoc hk pk3), hin⟩
        exact (.cons rfl (.cons rfl (.cons rfl (.cons rfl (.cons rfl (.cons rfl (.nil _)))))))
      · skip
        obtain ⟨a, m, c_, es, N, rfl, rfl, pk0, pk1, pk2, pk3, pk4⟩ := hI
        refine toNn ?_
        have hm : m = (T.at 2).l.length := by have h1 := congrArg List.length pk3; rw [List.length_map, List.length_map, List.take_length] at h1; omega
        have hfe : es.map (·.2) = (T.at 2).l := by rw [pk3, List.take_length, List.map_id]
        refine frN pk0 .head (fun H2 hle2 hfz => ?_)
        have hrw := RowsAt.row (R := At_UpdateMetadataRequestTopicPartition) hfz pk1 pk0.le.1 (fun p hp => At_UpdateMetadataRequestTopicPartition.mono _ _ _ _ hle2 (pk2 p hp))
        rw [hfe, ← hlt] at hrw
        have hnl : m = (lT (T.at 2)).length := by rw [hlt]; exact hm
        have hla : ListAt H2 (T.at 2) 10 At_UpdateMetadataRequestTopicPartition a c_ := ⟨hrw, by rw [pk4, hnu]⟩
        refine fun a_ w_ hA hw => ⟨_, _, _, hA.sub ?_, (le_12.trans hle2), hw, a, m, c_, rfl, rfl, hnl, hla⟩
        exact (.cons rfl (.cons rfl (.cons rfl (.nil _))))
    · skip
      have hnu : (T.at 2).nul = true := by simpa using h21
      refine skN ?_
      refine fun a_ w_ hA hw => ⟨_, _, _, hA.sub ?_, (Fz.le.refl _), hw, none, 0, 0, rfl, rfl, (by rw [lT_nul hnu]; rfl), (ListAt.none hnu)⟩
      exact (.cons rfl (.cons rfl (.cons rfl (.nil _))))
  · skip
    obtain ⟨a2, n2, c2, rfl, rfl, pj0, pj1⟩ := hI
    subst pj0
    have hf2 := pj1
    refine sq ?_
    refine sr ?_
    refine fa0 F39_4 rfl rfl ?_
    refine ld (Says.own (.tail (.tail .head))) Tryz.isAgg37 rfl (Nat.zero_add _).symm rfl rfl ?_
    refine ls Tryz.runUnderlying37 rfl rfl ?_
    refine mv rfl rfl ?_
    refine nl ?_
    refine nulC2 ?_
    have hun := hf.un
    refine fr (T.u.length) (fun q l' H' L' => ∃ (m : Option Nat), ∃ (kvs : List KV), ∃ (M : Chunk), [(2, .pointer (some ⟨b_2, 0, none⟩)), (3, .pointer (some ⟨b_3, 0, none⟩)), (45, .slice c.ua T.u.length c.uc), (46, .int .i64 (T.u.length : Int))] = l' ∧ M :: [(b_3, .cells [.string ⟨(T.at 0).s.toArray⟩, ub (T.at 1).s 0, ub (T.at 1).s 1, ub (T.at 1).s 2, ub (T.at 1).s 3, ub (T.at 1).s 4, ub (T.at 1).s 5, ub (T.at 1).s 6, ub (T.at 1).s 7, ub (T.at 1).s 8, ub (T.at 1).s 9, ub (T.at 1).s 10, ub (T.at 1).s 11, ub (T.at 1).s 12, ub (T.at 1).s 13, ub (T.at 1).s 14, ub (T.at 1).s 15, .slice a2 (lT (T.at 2)).length c2, .map m].toArray 154 (0, 0))] :: [(b_2, .cells [.string ⟨#[]⟩, .int .u8 0, .int .u8 0, .int .u8 0, .int .u8 0, .int .u8 0, .int .u8 0, .int .u8 0, .int .u8 0, .int .u8 0, .int .u8 0, .int .u8 0, .int .u8 0, .int .u8 0, .int .u8 0, .int .u8 0, .int .u8 0, .slice none 0 0, .map none].toArray 154 (0, 0))] :: [(b_1, .cells (c.cells T).toArray 39 (0, 0))] :: L = L' ∧ MapC m kvs M ∧ KvTo H' (T.u.take q) kvs) [(2, .pointer (some ⟨b_2, 0, none⟩)), (3, .pointer (some ⟨b_3, 0, none⟩)), (45, .slice c.ua T.u.length c.uc), (46, .int .i64 (T.u.length : Int))] (fun q l' H' L' h => ?_) (by omega) rfl (.cons rfl (.cons rfl (.cons rfl (.cons rfl (.nil _))))) ⟨none, [], [], rfl, rfl, MapC.nil, (KvTo.nil _)⟩ rfl rfl rfl rfl rfl (fun q l' H' L' hq le_23 hI => ?_) (fun l' H' L' le_24 hI => ?_)
    · obtain ⟨m, kvs, M, rfl, _⟩ := h; exact ⟨rfl, rfl, rfl, rfl⟩
    · skip
      obtain ⟨m, kvs, M, rfl, rfl, pq0, pq1⟩ := hI
      refine sr ?_
      obtain ⟨b_25, o_26, e_27, g_28⟩ := (hT.u.mono (le_8.trans le_23)).at_ (ne_nil_of_lt hq)
      obtain ⟨c_29, q_30, q_31⟩ := g_28 q hq
      refine ix2 Tryz.runUnderlying37 Tryz.sizeOf65 rfl e_27 rfl rfl hq rfl ?_
      refine la (Says.fz q_30) Tryz.isAgg65 Tryz.sizeOf65 rfl (Nat.add_zero _).symm rfl rfl ?_
      refine al Tryz.zeroValue65 rfl rfl (fun b_32 => ?_)
      refine sa Tryz.sizeOf65 rfl rfl rfl rfl rfl .head ?_
      refine nl ?_
      refine rg ?_
      refine fa0 F154_3 rfl rfl ?_
      refine fa0 F65_0 rfl rfl ?_
      refine ld (Says.own .head) Tryz.isAgg62 rfl (Nat.zero_add _).symm rfl rfl ?_
      refine fa0 F65_1 rfl rfl ?_
      refine ld (Says.own .head) Tryz.isAgg22 rfl (Nat.zero_add _).symm rfl rfl ?_
      refine tf (.tail (.tail .head)) ?_
      refine tf (.tail (.tail .head)) ?_
      refine cl rfl rfl rfl (t_set (cs := [.string ⟨(T.at 0).s.toArray⟩, ub (T.at 1).s 0, ub (T.at 1).s 1, ub (T.at 1).s 2, ub (T.at 1).s 3, ub (T.at 1).s 4, ub (T.at 1).s 5, ub (T.at 1).s 6, ub (T.at 1).s 7, ub (T.at 1).s 8, ub (T.at 1).s 9, ub (T.at 1).s 10, ub (T.at 1).s 11, ub (T.at 1).s 12, ub (T.at 1).s 13, ub (T.at 1).s 14, ub (T.at 1).s 15, .slice a2 (lT (T.at 2)).length c2, .map m]) (off := 18) pq0 rfl) rfl (fun v H1 L1 hle hR => ?_)
      obtain ⟨rfl, g56, cs56, hs56, rfl⟩ := hR
      obtain rfl : [.string ⟨(T.at 0).s.toArray⟩, ub (T.at 1).s 0, ub (T.at 1).s 1, ub (T.at 1).s 2, ub (T.at 1).s 3, ub (T.at 1).s 4, ub (T.at 1).s 5, ub (T.at 1).s 6, ub (T.at 1).s 7, ub (T.at 1).s 8, ub (T.at 1).s 9, ub (T.at 1).s 10, ub (T.at 1).s 11, ub (T.at 1).s 12, ub (T.at 1).s 13, ub (T.at 1).s 14, ub (T.at 1).s 15, .slice a2 (lT (T.at 2)).length c2, .map (some g56)] = cs56 := Option.some.inj hs56
      refine nN ?_
      refine Nb ?_
      refine drN (.tail (.tail .head)) ?_
      refine fun a_ w_ hA hw => ⟨_, _, _, hA.sub ?_, le_23, hw, _, rfl, _, _, [(g56, _)], rfl, rfl, (.inr ⟨g56, rfl, rfl⟩), (KvTo.put hf.u (List.getElem?_eq_getElem hq) pq1 (⟨⟨_, _, rfl, q_31.val⟩, q_31.lo, q_31.hi⟩))⟩
      exact (.cons rfl (.cons rfl (.cons rfl (.cons rfl (.cons rfl (.nil _))))))
    · skip
      obtain ⟨m, kvs, M, rfl, rfl, pq0, pq1⟩ := hI
      refine toWp ?_
      rw [List.take_length] at pq1
      refine frMW pq0 .head (fun H3 hle3 hmf => ?_)
      have hft := KvTo.at_ hf.u (pq1.mono hle3) hmf
      refine sr ?_
      refine la (Says.own .head) Tryz.isAgg154 Tryz.sizeOf154 rfl (Nat.zero_add _).symm rfl rfl ?_
      refine sa Tryz.sizeOf154 rfl rfl rfl rfl rfl (.tail .head) ?_
      refine nl ?_
      refine drW .head ?_
      refine drW (.tail .head) ?_
      exact rC rfl Tryz.isAgg154 Tryz.sizeOf154 rfl .head rfl (le_8.trans (le_24.trans hle3)) (fun _ _ h => h) ⟨rfl, _, rfl, ⟨a2, c2, m, rfl, (hf2.mono At_UpdateMetadataRequestTopicPartition.mono (le_24.trans hle3)), hft⟩⟩
theorem make_UpdateMetadataRequestLiveBrokerEndpoint {H : Fz} {L : Own} {c : TC} {T : Tr} (hT : TreeAt H c T) (hf : Fine T) :
    Fn Tryz.prog 132 [.agg (c.cells T).toArray] H L (fun v H' L' => L = L' ∧ ∃ cs : List Value, v = .agg cs.toArray ∧ At_UpdateMetadataRequestLiveBrokerEndpoint H' T cs) := by
  refine Fn.mk Tryz.call132 Tryz.func132 rfl Tryz.ntmps132 rfl ?_
  refine sr ?_
  refine bx rfl rfl rfl (fun b_1 => ?_)
  refine al Tryz.zeroValue166 rfl rfl (fun b_2 => ?_)
  refine nl ?_
  refine sr ?_
  refine al Tryz.zeroValue166 rfl rfl (fun b_3 => ?_)
  refine nl ?_
  refine sr ?_
  refine la (Says.own (.tail (.tail .head))) Tryz.isAgg39 Tryz.sizeOf39 rfl (Nat.zero_add _).symm rfl rfl ?_
  refine cl rfl rfl rfl (m_at (i := 0) hT) rfl (fun v H1 L1 hle hR => ?_)
  obtain ⟨rfl, rfl, c7, rfl, g7⟩ := hR
  refine fc C39_0 rfl rfl rfl ?_
  refine cv Tryz.runUnderlying2 Tryz.runUnderlying21 rfl rfl rfl ?_
  refine fa0 F166_0 rfl rfl ?_
  refine st Tryz.sizeOf21 rfl rfl rfl rfl .head ?_
  refine nl ?_
  refine sr ?_
  refine la (Says.own (.tail (.tail .head))) Tryz.isAgg39 Tryz.sizeOf39 rfl (Nat.zero_add _).symm rfl rfl ?_
  refine cl rfl rfl rfl (m_at (i := 1) hT) rfl (fun v H1 L1 hle hR => ?_)
  obtain ⟨rfl, rfl, c12, rfl, g12⟩ := hR
  refine fc C39_1 rfl rfl rfl ?_
  refine cbS Tryz.underlying22 Tryz.underlying5 Tryz.underlying9 rfl g12.s rfl rfl ?_
  refine fa0 F166_1 rfl rfl ?_
  refine st Tryz.sizeOf9 rfl rfl rfl rfl .head ?_
  refine nl ?_
  refine sr ?_
  refine la (Says.own (.tail (.tail .head))) Tryz.isAgg39 Tryz.sizeOf39 rfl (Nat.zero_add _).symm rfl rfl ?_
  refine cl rfl rfl rfl (m_at (i := 2) hT) rfl (fun v H1 L1 hle hR => ?_)
  obtain ⟨rfl, rfl, c17, rfl, g17⟩ := hR
  refine fc C39_1 rfl rfl rfl ?_
  refine cbS Tryz.underlying22 Tryz.underlying5 Tryz.underlying9 rfl g17.s rfl rfl ?_
  refine fa0 F166_2 rfl rfl ?_
  refine st Tryz.sizeOf9 rfl rfl rfl rfl .head ?_
  refine nl ?_
  refine sr ?_
  refine la (Says.own (.tail (.tail .head))) Tryz.isAgg39 Tryz.sizeOf39 rfl (Nat.zero_add _).symm rfl rfl ?_
  refine cl rfl rfl rfl (m_at (i := 3) hT) rfl (fun v H1 L1 hle hR => ?_)
  obtain ⟨rfl, rfl, c22, rfl, g22⟩ := hR
  refine fc C39_0 rfl rfl rfl ?_
  refine cv Tryz.runUnderlying2 Tryz.runUnderlying45 rfl rfl rfl ?_
  refine fa0 F166_3 rfl rfl ?_
  refine st Tryz.sizeOf45 rfl rfl rfl rfl .head ?_
  refine nl ?_
  refine sq ?_
  refine sr ?_
  refine fa0 F39_4 rfl rfl ?_
  refine ld (Says.own (.tail (.tail .head))) Tryz.isAgg37 rfl (Nat.zero_add _).symm rfl rfl ?_
  refine ls Tryz.runUnderlying37 rfl rfl ?_
  refine mv rfl rfl ?_
  refine nl ?_
  refine nulC2 ?_
  have hun := hf.un
  refine fr (T.u.length) (fun q l' H' L' => ∃ (m : Option Nat), ∃ (kvs : List KV), ∃ (M : Chunk), [(2, .pointer (some ⟨b_2, 0, none⟩)), (3, .pointer (some ⟨b_3, 0, none⟩)), (27, .slice c.ua T.u.length c.uc), (28, .int .i64 (T.u.length : Int))] = l' ∧ M :: [(b_3, .cells [.int .i32 (IntKind.i32.wrap (T.at 0).n), .string ⟨(T.at 1).s.toArray⟩, .string ⟨(T.at 2).s.toArray⟩, .int .i16 (IntKind.i16.wrap (T.at 3).n), .map m].toArray 166 (0, 0))] :: [(b_2, .cells [.int .i32 0, .string ⟨#[]⟩, .string ⟨#[]⟩, .int .i16 0, .map none].toArray 166 (0, 0))] :: [(b_1, .cells (c.cells T).toArray 39 (0, 0))] :: L = L' ∧ MapC m kvs M ∧ KvTo H' (T.u.take q) kvs) [(2, .pointer (some ⟨b_2, 0, none⟩)), (3, .pointer (some ⟨b_3, 0, none⟩)), (27, .slice c.ua T.u.length c.uc), (28, .int .i64 (T.u.length : Int))] (fun q l' H' L' h => ?_) (by omega) rfl (.cons rfl (.cons rfl (.cons rfl (.cons rfl (.nil _))))) ⟨none, [], [], rfl, rfl, MapC.nil, (KvTo.nil _)⟩ rfl rfl rfl rfl rfl (fun q l' H' L' hq le_8 hI => ?_) (fun l' H' L' le_9 hI => ?_)
  · obtain ⟨m, kvs, M, rfl, _⟩ := h; exact ⟨rfl, rfl, rfl, rfl⟩
  · skip
    obtain ⟨m, kvs, M, rfl, rfl, pq0, pq1⟩ := hI
    refine sr ?_
    obtain ⟨b_10, o_11, e_12, g_13⟩ := (hT.u.mono le_8).at_ (ne_nil_of_lt hq)
    obtain ⟨c_14, q_15, q_16⟩ := g_13 q hq
    refine ix2 Tryz.runUnderlying37 Tryz.sizeOf65 rfl e_12 rfl rfl hq rfl ?_
    refine la (Says.fz q_15) Tryz.isAgg65 Tryz.sizeOf65 rfl (Nat.add_zero _).symm rfl rfl ?_
    refine al Tryz.zeroValue65 rfl rfl (fun b_17 => ?_)
    refine sa Tryz.sizeOf65 rfl rfl rfl rfl rfl .head ?_
    refine nl ?_
    refine rg ?_
    refine fa0 F166_4 rfl rfl ?_
    refine fa0 F65_0 rfl rfl ?_
    refine ld (Says.own .head) Tryz.isAgg62 rfl (Nat.zero_add _).symm rfl rfl ?_
    refine fa0 F65_1 rfl rfl ?_
    refine ld (Says.own .head) Tryz.isAgg22 rfl (Nat.zero_add _).symm rfl rfl ?_
    refine tf (.tail (.tail .head)) ?_
    refine tf (.tail (.tail .head)) ?_
    refine cl rfl rfl rfl (t_set (cs := [.int .i32 (IntKind.i32.wrap (T.at 0).n), .string ⟨(T.at 1).s.toArray⟩, .string ⟨(T.at 2).s.toArray⟩, .int .i16 (IntKind.i16.wrap (T.at 3).n), .map m]) (off := 4) pq0 rfl) rfl (fun v H1 L1 hle hR => ?_)
    obtain ⟨rfl, g38, cs38, hs38, rfl⟩ := hR
    obtain rfl : [.int .i32 (IntKind.i32.wrap (T.at 0).n), .string ⟨(T.at 1).s.toArray⟩, .string ⟨(T.at 2).s.toArray⟩, .int .i16 (IntKind.i16.wrap (T.at 3).n), .map (some g38)] = cs38 := Option.some.inj hs38
    refine nN ?_
    refine Nb ?_
    refine drN (.tail (.tail .head)) ?_
    refine fun a_ w_ hA hw => ⟨_, _, _, hA.sub ?_, le_8, hw, _, rfl, _, _, [(g38, _)], rfl, rfl, (.inr ⟨g38, rfl, rfl⟩), (KvTo.put hf.u (List.getElem?_eq_getElem hq) pq1 (⟨⟨_, _, rfl, q_16.val⟩, q_16.lo, q_16.hi⟩))⟩
    exact (.cons rfl (.cons rfl (.cons rfl (.cons rfl (.cons rfl (.nil _))))))
  · skip
    obtain ⟨m, kvs, M, rfl, rfl, pq0, pq1⟩ := hI
    refine toWp ?_
    rw [List.take_length] at pq1
    refine frMW pq0 .head (fun H3 hle3 hmf => ?_)
    have hft := KvTo.at_ hf.u (pq1.mono hle3) hmf
    refine sr ?_
    refine la (Says.own .head) Tryz.isAgg166 Tryz.sizeOf166 rfl (Nat.zero_add _).symm rfl rfl ?_
    refine sa Tryz.sizeOf166 rfl rfl rfl rfl rfl (.tail .head) ?_
    refine nl ?_
    refine drW .head ?_
    refine drW (.tail .head) ?_
    exact rC rfl Tryz.isAgg166 Tryz.sizeOf166 rfl .head rfl (le_9.trans hle3) (fun _ _ h => h) ⟨rfl, _, rfl, ⟨m, rfl, hft⟩⟩
theorem make_UpdateMetadataRequestLiveBroker {H : Fz} {L : Own} {c : TC} {T : Tr} (hT : TreeAt H c T) (hf : Fine T) :
    Fn Tryz.prog 96 [.agg (c.cells T).toArray] H L (fun v H' L' => L = L' ∧ ∃ cs : List Value, v = .agg cs.toArray ∧ At_UpdateMetadataRequestLiveBroker H' T cs) := by
  refine Fn.mk Tryz.call96 Tryz.func96 rfl Tryz.ntmps96 rfl ?_
  refine sr ?_
  refine bx rfl rfl rfl (fun b_1 => ?_)
  refine al Tryz.zeroValue158 rfl rfl (fun b_2 => ?_)
  refine nl ?_
  refine sr ?_
  refine al Tryz.zeroValue158 rfl rfl (fun b_3 => ?_)
  refine nl ?_
  refine sr ?_
  refine la (Says.own (.tail (.tail .head))) Tryz.isAgg39 Tryz.sizeOf39 rfl (Nat.zero_add _).symm rfl rfl ?_
  refine cl rfl rfl rfl (m_at (i := 0) hT) rfl (fun v H1 L1 hle hR => ?_)
  obtain ⟨rfl, rfl, c9, rfl, g9⟩ := hR
  refine fc C39_0 rfl rfl rfl ?_
  refine cv Tryz.runUnderlying2 Tryz.runUnderlying21 rfl rfl rfl ?_
  refine fa0 F158_0 rfl rfl ?_
  refine st Tryz.sizeOf21 rfl rfl rfl rfl .head ?_
  refine nl ?_
  refine sr ?_
  refine la (Says.own (.tail (.tail .head))) Tryz.isAgg39 Tryz.sizeOf39 rfl (Nat.zero_add _).symm rfl rfl ?_
  refine cl rfl rfl rfl (m_at (i := 1) hT) rfl (fun v H1 L1 hle hR => ?_)
  obtain ⟨rfl, rfl, c14, rfl, g14⟩ := hR
  refine fc C39_1 rfl rfl rfl ?_
  refine cbS Tryz.underlying22 Tryz.underlying5 Tryz.underlying9 rfl g14.s rfl rfl ?_
  refine fa0 F158_1 rfl rfl ?_
  refine st Tryz.sizeOf9 rfl rfl rfl rfl .head ?_
  refine nl ?_
  refine sr ?_
  refine la (Says.own (.tail (.tail .head))) Tryz.isAgg39 Tryz.sizeOf39 rfl (Nat.zero_add _).symm rfl rfl ?_
  refine cl rfl rfl rfl (m_at (i := 2) hT) rfl (fun v H1 L1 hle hR => ?_)
  obtain ⟨rfl, rfl, c19, rfl, g19⟩ := hR
  refine fc C39_0 rfl rfl rfl ?_
  refine cv Tryz.runUnderlying2 Tryz.runUnderlying21 rfl rfl rfl ?_
  refine fa0 F158_2 rfl rfl ?_
  refine st Tryz.sizeOf21 rfl rfl rfl rfl .head ?_
  refine nl ?_
  refine sq ?_
  refine sr ?_
  refine la (Says.own (.tail (.tail .head))) Tryz.isAgg39 Tryz.sizeOf39 rfl (Nat.zero_add _).symm rfl rfl ?_
  refine cl rfl rfl rfl (m_at (i := 3) hT) rfl (fun v H1 L1 hle hR => ?_)
  obtain ⟨rfl, rfl, c24, rfl, g24⟩ := hR
  refine fc C39_2 rfl rfl rfl ?_
  refine nt rfl rfl ?_
  refine nl ?_
  refine cutT (fun l' H' L' => ∃ (a3 : Option Addr), ∃ (n3 : Nat), ∃ (c3 : Nat), [(1, .pointer (some ⟨b_1, 0, none⟩)), (2, .pointer (some ⟨b_2, 0, none⟩)), (3, .pointer (some ⟨b_3, 0, none⟩))] = l' ∧ [(b_3, .cells [.int .i32 (IntKind.i32.wrap (T.at 0).n), .string ⟨(T.at 1).s.toArray⟩, .int .i32 (IntKind.i32.wrap (T.at 2).n), .slice a3 n3 c3, .pointer none, .map none].toArray 158 (0, 0))] :: [(b_2, .cells [.int .i32 0, .string ⟨#[]⟩, .int .i32 0, .slice none 0 0, .pointer none, .map none].toArray 158 (0, 0))] :: [(b_1, .cells (c.cells T).toArray 39 (0, 0))] :: L = L' ∧ n3 = (lT (T.at 3)).length ∧ ListAt H' (T.at 3) 5 At_UpdateMetadataRequestLiveBrokerEndpoint a3 c3) ?_ (fun l' H' L' le_8 hI => ?_)
  · skip
    refine cb rfl (fun h26 => ?_) (fun h26 => ?_)
    · skip
      have hnu : (T.at 3).nul = false := by simpa using h26
      have hlt : lT (T.at 3) = (T.at 3).l := lT_not hnu
      have hfl := (hf.at 3).len
      refine sr ?_
      refine la (Says.own (.tail (.tail .head))) Tryz.isAgg39 Tryz.sizeOf39 rfl (Nat.zero_add _).symm rfl rfl ?_
      refine cl rfl rfl rfl (m_at (i := 3) hT) rfl (fun v H1 L1 hle hR => ?_)
      obtain ⟨rfl, rfl, c28, rfl, g28⟩ := hR
      refine fc C39_3 rfl rfl rfl ?_
      refine ls Tryz.runUnderlying36 rfl rfl ?_
      refine mks (m := 0) (c := (T.at 3).l.length) (zs := [.int .i32 0, .string ⟨#[]⟩, .string ⟨#[]⟩, .int .i16 0, .map none]) Tryz.underlying156 I166 rfl rfl rfl rfl rfl (by omega) (by omega) (by unfold maxLen; omega) rfl (fun bm31 N31 r31 => ?_)
      refine fa0 F158_3 rfl rfl ?_
      refine st Tryz.sizeOf156 rfl rfl rfl rfl (.tail .head) ?_
      refine nl ?_
      refine sr ?_
      refine la (Says.own (.tail (.tail (.tail .head)))) Tryz.isAgg39 Tryz.sizeOf39 rfl (Nat.zero_add _).symm rfl rfl ?_
      refine cl rfl rfl rfl (m_at (i := 3) hT) rfl (fun v H1 L1 hle hR => ?_)
      obtain ⟨rfl, rfl, c34, rfl, g34⟩ := hR
      refine fc C39_3 rfl rfl rfl ?_
      refine ls Tryz.runUnderlying36 rfl rfl ?_
      refine mv rfl rfl ?_
      refine nl ?_
      refine fr ((T.at 3).l.length) (fun k l' H' L' => ∃ (a : Option Addr), ∃ (m : Nat), ∃ (c_ : Nat), ∃ (es : List (KE 5)), ∃ (N : Chunk), [(1, .pointer (some ⟨b_1, 0, none⟩)), (2, .pointer (some ⟨b_2, 0, none⟩)), (3, .pointer (some ⟨b_3, 0, none⟩)), (35, .slice c34.la (T.at 3).l.length c34.lc), (36, .int .i64 ((T.at 3).l.length : Int))] = l' ∧ N :: [(b_3, .cells [.int .i32 (IntKind.i32.wrap (T.at 0).n), .string ⟨(T.at 1).s.toArray⟩, .int .i32 (IntKind.i32.wrap (T.at 2).n), .slice a m c_, .pointer none, .map none].toArray 158 (0, 0))] :: [(b_2, .cells [.int .i32 0, .string ⟨#[]⟩, .int .i32 0, .slice none 0 0, .pointer none, .map none].toArray 158 (0, 0))] :: [(b_1, .cells (c.cells T).toArray 39 (0, 0))] :: L = L' ∧ Row 166 5 a m c_ (es.flatMap fk) N ∧ m = es.length ∧ (∀ p : KE 5, p ∈ es → At_UpdateMetadataRequestLiveBrokerEndpoint H' p.2 (fk p)) ∧ es.map (·.2) = ((T.at 3).l.take k).map id ∧ a.isNone = false) [(1, .pointer (some ⟨b_1, 0, none⟩)), (2, .pointer (some ⟨b_2, 0, none⟩)), (3, .pointer (some ⟨b_3, 0, none⟩)), (35, .slice c34.la (T.at 3).l.length c34.lc), (36, .int .i64 ((T.at 3).l.length : Int))] (fun k l' H' L' h => ?_) (by omega) rfl (.cons rfl (.cons rfl (.cons rfl (.cons rfl (.cons rfl (.nil _)))))) ⟨some ⟨bm31, 0, none⟩, 0, _, [], N31, rfl, rfl, r31, rfl, (fun p hp => by cases hp), (by simp), rfl⟩ rfl rfl rfl rfl rfl (fun k l' H' L' hk le_11 hI => ?_) (fun l' H' L' le_12 hI => ?_)
      · obtain ⟨a, m, c_, es, N, rfl, _⟩ := h; exact ⟨rfl, rfl, rfl, rfl⟩
      · skip
        obtain ⟨a, m, c_, es, N, rfl, rfl, pk0, pk1, pk2, pk3, pk4⟩ := hI
        refine sr ?_
        obtain ⟨b_13, o_14, e_15, g_16⟩ := (g34.l.mono le_11).at_ (ne_nil_of_lt hk)
        obtain ⟨c_17, q_18, q_19⟩ := g_16 k hk
        refine ix2 Tryz.runUnderlying36 Tryz.sizeOf39 rfl e_15 rfl rfl hk rfl ?_
        refine la (Says.fz q_18) Tryz.isAgg39 Tryz.sizeOf39 rfl (Nat.add_zero _).symm rfl rfl ?_
        refine al Tryz.zeroValue39 rfl rfl (fun b_20 => ?_)
        refine sa Tryz.sizeOf39 rfl rfl rfl rfl rfl .head ?_
        refine nl ?_
        refine rgD 7 (.keep (.skip (.keep (.keep (.keep .nil))))) mixed ?_
        refine dT 0 rfl rfl rfl (by kernel_rfl) (fun _ _ _ h => h) (y_fa0 F158_3 rfl) (.keep (.skip (.keep (.keep (.keep .nil))))) (Fz.le.refl _) ?_
        refine dT 1 rfl rfl rfl (by kernel_rfl) (fun _ _ _ h => h) (y_ld (Says.own (.tail .head)) Tryz.isAgg156 rfl (Nat.zero_add _).symm rfl) (.keep (.skip (.keep (.keep (.keep .nil))))) (Fz.le.refl _) ?_
        refine dT 2 rfl rfl rfl (by kernel_rfl) (fun _ _ _ h => h) (y_la (Says.own .head) Tryz.isAgg39 Tryz.sizeOf39 rfl (Nat.zero_add _).symm rfl) (.keep (.skip (.keep (.keep (.keep .nil))))) (Fz.le.refl _) ?_
        refine dE 3 (by kernel_rfl) rfl ?_
        refine cl rfl rfl rfl (make_UpdateMetadataRequestLiveBrokerEndpoint q_19 ((hf.at 3).el (List.getElem_mem hk))) rfl (fun v H1 L1 le_21 hR => ?_)
        obtain ⟨rfl, cs44, rfl, g44⟩ := hR
        have ho44 := At_UpdateMetadataRequestLiveBrokerEndpoint.ok g44
        have gg44 := g44
        obtain ⟨mte, rfl, he0⟩ := g44
        refine dN (.keep (.skip (.keep (.keep (.keep .nil))))) le_21 ?_
        refine dE 4 (by kernel_rfl) rfl ?_
        refine bs' L156 rfl rfl rfl rfl (fun b_22 => ?_)
        refine dN (.skip (.keep (.skip (.keep (.keep (.keep .nil)))))) le_21 ?_
        refine dE 5 (by kernel_rfl) rfl ?_
        have hmk : m = k := by have h1 := congrArg List.length pk3; rw [List.length_map, List.length_map, List.length_take] at h1; omega
        refine ap (news := fk ((⟨_, ho44⟩, (T.at 3).l[k]) : KE 5)) Tryz.underlying156 I166 rfl rfl pk0 (fun _ => (.tail (.tail .head))) (src_says Tryz.underlying156 rfl (fun _ => Says.own .head) (fk_one _)) (by omega) (by unfold maxLen; omega) rfl (fun a46 c46 N46 r46 z46 => ?_)
        rw [flatMap_snoc'] at r46
        have hin : a46.isNone = false := by cases a46 with | none => have := z46.1 rfl; omega | some _ => rfl
        refine dN (.skip (.keep (.skip (.keep (.keep (.keep .nil)))))) le_21 ?_
        refine dT 6 rfl rfl rfl (by kernel_rfl) (fun _ _ _ h => h) (y_fa0 F158_3 rfl) (.skip (.keep (.skip (.keep (.keep (.keep .nil)))))) le_21 ?_
        refine dE 7 (by kernel_rfl) rfl ?_
        refine st Tryz.sizeOf156 rfl rfl rfl rfl (.tail (.tail (.tail .head))) ?_
        refine dNk (by kernel_rfl) ?_
        refine dD (by kernel_rfl) ?_
        refine Nb ?_
        refine drN .head ?_
        refine drN .head ?_
        refine fun a_ w_ hA hw => ⟨_, _, _, hA.sub ?_, (le_11.trans le_21), hw, _, rfl, a46, _, c46, (es ++ [((⟨_, ho44⟩, (T.at 3).l[k]) : KE 5)]), N46, rfl, rfl, r46, (by simp; omega), (fun p hp => (mem_snoc hp).elim (fun h => At_UpdateMetadataRequestLiveBrokerEndpoint.mono _ _ _ _ le_21 (pk2 p h)) (fun h => h ▸ At_UpdateMetadataRequestLiveBrokerEndpoint.mono _ _ _ _ (Fz.le.refl _) gg44)), (map_take_snoc hk pk3), hin⟩
        exact (.cons rfl (.cons rfl (.cons rfl (.cons rfl (.cons rfl (.cons rfl (.nil _)))))))
      · skip
        obtain ⟨a, m, c_, es, N, rfl, rfl, pk0, pk1, pk2, pk3, pk4⟩ := hI
        refine toNn ?_
        have hm : m = (T.at 3).l.length := by have h1 := congrArg List.length pk3; rw [List.length_map, List.length_map, List.take_length] at h1; omega
        have hfe : es.map (·.2) = (T.at 3).l := by rw [pk3, List.take_length, List.map_id]
        refine frN pk0 .head (fun H2 hle2 hfz => ?_)
        have hrw := RowsAt.row (R := At_UpdateMetadataRequestLiveBrokerEndpoint) hfz pk1 pk0.le.1 (fun p hp => At_UpdateMetadataRequestLiveBrokerEndpoint.mono _ _ _ _ hle2 (pk2 p hp))
        rw [hfe, ← hlt] at hrw
        have hnl : m = (lT (T.at 3)).length := by rw [hlt]; exact hm
        have hla : ListAt H2 (T.at 3) 5 At_UpdateMetadataRequestLiveBrokerEndpoint a c_ := ⟨hrw, by rw [pk4, hnu]⟩
        refine fun a_ w_ hA hw => ⟨_, _, _, hA.sub ?_, (le_12.trans hle2), hw, a, m, c_, rfl, rfl, hnl, hla⟩
        exact (.cons rfl (.cons rfl (.cons rfl (.nil _))))
    · skip
      have hnu : (T.at 3).nul = true := by simpa using h26
      refine skN ?_
      refine fun a_ w_ hA hw => ⟨_, _, _, hA.sub ?_, (Fz.le.refl _), hw, none, 0, 0, rfl, rfl, (by rw [lT_nul hnu]; rfl), (ListAt.none hnu)⟩
      exact (.cons rfl (.cons rfl (.cons rfl (.nil _))))
  · skip
    obtain ⟨a3, n3, c3, rfl, rfl, pj0, pj1⟩ := hI
    subst pj0
    have hf3 := pj1
    refine sr ?_
    refine la (Says.own (.tail (.tail .head))) Tryz.isAgg39 Tryz.sizeOf39 rfl (Nat.zero_add _).symm rfl rfl ?_
    refine cl rfl rfl rfl (m_at (i := 4) (hT.mono le_8)) rfl (fun v H1 L1 hle hR => ?_)
    obtain ⟨rfl, rfl, c50, rfl, g50⟩ := hR
    refine cl rfl rfl rfl (m_textOf g50) rfl (fun v H1 L1 le_24 hR => ?_)
    obtain ⟨rfl, p4, rfl, hf4⟩ := hR
    refine fa0 F158_4 rfl rfl ?_
    refine st Tryz.sizeOf110 rfl rfl rfl rfl .head ?_
    refine nl ?_
    refine sq ?_
    refine sr ?_
    refine fa0 F39_4 rfl rfl ?_
    refine ld (Says.own (.tail (.tail .head))) Tryz.isAgg37 rfl (Nat.zero_add _).symm rfl rfl ?_
    refine ls Tryz.runUnderlying37 rfl rfl ?_
    refine mv rfl rfl ?_
    refine nl ?_
    refine nulC2 ?_
    have hun := hf.un
    refine fr (T.u.length) (fun q l' H' L' => ∃ (m : Option Nat), ∃ (kvs : List KV), ∃ (M : Chunk), [(2, .pointer (some ⟨b_2, 0, none⟩)), (3, .pointer (some ⟨b_3, 0, none⟩)), (54, .slice c.ua T.u.length c.uc), (55, .int .i64 (T.u.length : Int))] = l' ∧ M :: [(b_3, .cells [.int .i32 (IntKind.i32.wrap (T.at 0).n), .string ⟨(T.at 1).s.toArray⟩, .int .i32 (IntKind.i32.wrap (T.at 2).n), .slice a3 (lT (T.at 3)).length c3, .pointer p4, .map m].toArray 158 (0, 0))] :: [(b_2, .cells [.int .i32 0, .string ⟨#[]⟩, .int .i32 0, .slice none 0 0, .pointer none, .map none].toArray 158 (0, 0))] :: [(b_1, .cells (c.cells T).toArray 39 (0, 0))] :: L = L' ∧ MapC m kvs M ∧ KvTo H' (T.u.take q) kvs) [(2, .pointer (some ⟨b_2, 0, none⟩)), (3, .pointer (some ⟨b_3, 0, none⟩)), (54, .slice c.ua T.u.length c.uc), (55, .int .i64 (T.u.length : Int))] (fun q l' H' L' h => ?_) (by omega) rfl (.cons rfl (.cons rfl (.cons rfl (.cons rfl (.nil _))))) ⟨none, [], [], rfl, rfl, MapC.nil, (KvTo.nil _)⟩ rfl rfl rfl rfl rfl (fun q l' H' L' hq le_25 hI => ?_) (fun l' H' L' le_26 hI => ?_)
    · obtain ⟨m, kvs, M, rfl, _⟩ := h; exact ⟨rfl, rfl, rfl, rfl⟩
    · skip
      obtain ⟨m, kvs, M, rfl, rfl, pq0, pq1⟩ := hI
      refine sr ?_
      obtain ⟨b_27, o_28, e_29, g_30⟩ := (hT.u.mono (le_8.trans (le_24.trans le_25))).at_ (ne_nil_of_lt hq)
      obtain ⟨c_31, q_32, q_33⟩ := g_30 q hq
      refine ix2 Tryz.runUnderlying37 Tryz.sizeOf65 rfl e_29 rfl rfl hq rfl ?_
      refine la (Says.fz q_32) Tryz.isAgg65 Tryz.sizeOf65 rfl (Nat.add_zero _).symm rfl rfl ?_
      refine al Tryz.zeroValue65 rfl rfl (fun b_34 => ?_)
      refine sa Tryz.sizeOf65 rfl rfl rfl rfl rfl .head ?_
      refine nl ?_
      refine rg ?_
      refine fa0 F158_5 rfl rfl ?_
      refine fa0 F65_0 rfl rfl ?_
      refine ld (Says.own .head) Tryz.isAgg62 rfl (Nat.zero_add _).symm rfl rfl ?_
      refine fa0 F65_1 rfl rfl ?_
      refine ld (Says.own .head) Tryz.isAgg22 rfl (Nat.zero_add _).symm rfl rfl ?_
      refine tf (.tail (.tail .head)) ?_
      refine tf (.tail (.tail .head)) ?_
      refine cl rfl rfl rfl (t_set (cs := [.int .i32 (IntKind.i32.wrap (T.at 0).n), .string ⟨(T.at 1).s.toArray⟩, .int .i32 (IntKind.i32.wrap (T.at 2).n), .slice a3 (lT (T.at 3)).length c3, .pointer p4, .map m]) (off := 5) pq0 rfl) rfl (fun v H1 L1 hle hR => ?_)
      obtain ⟨rfl, g65, cs65, hs65, rfl⟩ := hR
      obtain rfl : [.int .i32 (IntKind.i32.wrap (T.at 0).n), .string ⟨(T.at 1).s.toArray⟩, .int .i32 (IntKind.i32.wrap (T.at 2).n), .slice a3 (lT (T.at 3)).length c3, .pointer p4, .map (some g65)] = cs65 := Option.some.inj hs65
      refine nN ?_
      refine Nb ?_
      refine drN (.tail (.tail .head)) ?_
      refine fun a_ w_ hA hw => ⟨_, _, _, hA.sub ?_, le_25, hw, _, rfl, _, _, [(g65, _)], rfl, rfl, (.inr ⟨g65, rfl, rfl⟩), (KvTo.put hf.u (List.getElem?_eq_getElem hq) pq1 (⟨⟨_, _, rfl, q_33.val⟩, q_33.lo, q_33.hi⟩))⟩
      exact (.cons rfl (.cons rfl (.cons rfl (.cons rfl (.cons rfl (.nil _))))))
    · skip
      obtain ⟨m, kvs, M, rfl, rfl, pq0, pq1⟩ := hI
      refine toWp ?_
      rw [List.take_length] at pq1
      refine frMW pq0 .head (fun H3 hle3 hmf => ?_)
      have hft := KvTo.at_ hf.u (pq1.mono hle3) hmf
      refine sr ?_
      refine la (Says.own .head) Tryz.isAgg158 Tryz.sizeOf158 rfl (Nat.zero_add _).symm rfl rfl ?_
      refine sa Tryz.sizeOf158 rfl rfl rfl rfl rfl (.tail .head) ?_
      refine nl ?_
      refine drW .head ?_
      refine drW (.tail .head) ?_
      exact rC rfl Tryz.isAgg158 Tryz.sizeOf158 rfl .head rfl (le_8.trans (le_24.trans (le_26.trans hle3))) (fun _ _ h => h) ⟨rfl, _, rfl, ⟨a3, c3, p4, m, rfl, (hf3.mono At_UpdateMetadataRequestLiveBrokerEndpoint.mono (le_24.trans (le_26.trans hle3))), (hf4.mono (le_26.trans hle3)), hft⟩⟩
theorem fill_UpdateMetadataRequest {H : Fz} {L : Own} {b : Nat} {ver : Int} {c : TC} {T : Tr} (hT : TreeAt H c T) (hf : Fine T) :
    Fn Tryz.prog 50 [.pointer (some ⟨b, 0, none⟩), .agg (c.cells T).toArray] H ([(b, .cells [.int .i16 ver, .int .i32 0, .bool false, .int .i32 0, .int .i64 0, .slice none 0 0, .slice none 0 0, .slice none 0 0, .map none].toArray 85 (0, 0))] :: L) (fun _ H' L' => ∃ cs : List Value, L' = [(b, .cells cs.toArray 85 (0, 0))] :: L ∧ At_UpdateMetadataRequest ver H' T cs) := by
  refine Fn.mk Tryz.call50 Tryz.func50 rfl Tryz.ntmps50 rfl ?_
  refine sr ?_
  refine bx rfl rfl rfl (fun b_1 => ?_)
  refine nl ?_
  refine sr ?_
  refine mv rfl rfl ?_
  refine la (Says.own .head) Tryz.isAgg39 Tryz.sizeOf39 rfl (Nat.zero_add _).symm rfl rfl ?_
  refine cl rfl rfl rfl (m_at (i := 0) hT) rfl (fun v H1 L1 hle hR => ?_)
  obtain ⟨rfl, rfl, c14, rfl, g14⟩ := hR
  refine fc C39_0 rfl rfl rfl ?_
  refine cv Tryz.runUnderlying2 Tryz.runUnderlying21 rfl rfl rfl ?_
  refine nc rfl rfl ?_
  refine fa0 F85_1 rfl rfl ?_
  refine st Tryz.sizeOf21 rfl rfl rfl rfl (.tail .head) ?_
  refine nl ?_
  refine sr ?_
  refine mv rfl rfl ?_
  refine la (Says.own .head) Tryz.isAgg39 Tryz.sizeOf39 rfl (Nat.zero_add _).symm rfl rfl ?_
  refine cl rfl rfl rfl (m_at (i := 1) hT) rfl (fun v H1 L1 hle hR => ?_)
  obtain ⟨rfl, rfl, c21, rfl, g21⟩ := hR
  refine fc C39_0 rfl rfl rfl ?_
  refine an rfl rfl (and1_i64 _) rfl ?_
  refine eq' rfl rfl rfl ?_
  refine nc rfl rfl ?_
  refine fa0 F85_2 rfl rfl ?_
  refine st Tryz.sizeOf4 rfl rfl rfl rfl (.tail .head) ?_
  refine nl ?_
  refine sr ?_
  refine mv rfl rfl ?_
  refine la (Says.own .head) Tryz.isAgg39 Tryz.sizeOf39 rfl (Nat.zero_add _).symm rfl rfl ?_
  refine cl rfl rfl rfl (m_at (i := 2) hT) rfl (fun v H1 L1 hle hR => ?_)
  obtain ⟨rfl, rfl, c29, rfl, g29⟩ := hR
  refine fc C39_0 rfl rfl rfl ?_
  refine cv Tryz.runUnderlying2 Tryz.runUnderlying21 rfl rfl rfl ?_
  refine nc rfl rfl ?_
  refine fa0 F85_3 rfl rfl ?_
  refine st Tryz.sizeOf21 rfl rfl rfl rfl (.tail .head) ?_
  refine nl ?_
  refine sr ?_
  refine mv rfl rfl ?_
  refine la (Says.own .head) Tryz.isAgg39 Tryz.sizeOf39 rfl (Nat.zero_add _).symm rfl rfl ?_
  refine cl rfl rfl rfl (m_at (i := 3) hT) rfl (fun v H1 L1 hle hR => ?_)
  obtain ⟨rfl, rfl, c36, rfl, g36⟩ := hR
  refine fc C39_0 rfl rfl rfl ?_
  refine nc rfl rfl ?_
  refine fa0 F85_4 rfl rfl ?_
  refine st Tryz.sizeOf2 rfl rfl rfl rfl (.tail .head) ?_
  refine nl ?_
  refine sq ?_
  refine sr ?_
  refine la (Says.own .head) Tryz.isAgg39 Tryz.sizeOf39 rfl (Nat.zero_add _).symm rfl rfl ?_
  refine cl rfl rfl rfl (m_at (i := 4) hT) rfl (fun v H1 L1 hle hR => ?_)
  obtain ⟨rfl, rfl, c41, rfl, g41⟩ := hR
  refine fc C39_2 rfl rfl rfl ?_
  refine nt rfl rfl ?_
  refine nl ?_
  refine cutT (fun l' H' L' => ∃ (a4 : Option Addr), ∃ (n4 : Nat), ∃ (c4 : Nat), [(0, .pointer (some ⟨b, 0, none⟩)), (3, .pointer (some ⟨b_1, 0, none⟩))] = l' ∧ [(b_1, .cells (c.cells T).toArray 39 (0, 0))] :: [(b, .cells [.int .i16 ver, .int .i32 (IntKind.i32.wrap (T.at 0).n), .bool (decide ((T.at 1).n % 2 = 1)), .int .i32 (IntKind.i32.wrap (T.at 2).n), .int .i64 (T.at 3).n, .slice a4 n4 c4, .slice none 0 0, .slice none 0 0, .map none].toArray 85 (0, 0))] :: L = L' ∧ n4 = (lT (T.at 4)).length ∧ ListAt H' (T.at 4) 10 At_UpdateMetadataRequestTopicPartition a4 c4) ?_ (fun l' H' L' le_7 hI => ?_)
  · skip
    refine cb rfl (fun h43 => ?_) (fun h43 => ?_)
    · skip
      have hnu : (T.at 4).nul = false := by simpa using h43
      have hlt : lT (T.at 4) = (T.at 4).l := lT_not hnu
      have hfl := (hf.at 4).len
      refine sr ?_
      refine mv rfl rfl ?_
      refine la (Says.own .head) Tryz.isAgg39 Tryz.sizeOf39 rfl (Nat.zero_add _).symm rfl rfl ?_
      refine cl rfl rfl rfl (m_at (i := 4) hT) rfl (fun v H1 L1 hle hR => ?_)
      obtain ⟨rfl, rfl, c46, rfl, g46⟩ := hR
      refine fc C39_3 rfl rfl rfl ?_
      refine ls Tryz.runUnderlying36 rfl rfl ?_
      refine mks (m := 0) (c := (T.at 4).l.length) (zs := [.string ⟨#[]⟩, .int .i32 0, .int .i32 0, .int .i32 0, .int .i32 0, .slice none 0 0, .int .i32 0, .slice none 0 0, .slice none 0 0, .map none]) Tryz.underlying81 I151 rfl rfl rfl rfl rfl (by omega) (by omega) (by unfold maxLen; omega) rfl (fun bm49 N49 r49 => ?_)
      refine nc rfl rfl ?_
      refine fa0 F85_5 rfl rfl ?_
      refine st Tryz.sizeOf81 rfl rfl rfl rfl (.tail (.tail .head)) ?_
      refine nl ?_
      refine sr ?_
      refine la (Says.own (.tail .head)) Tryz.isAgg39 Tryz.sizeOf39 rfl (Nat.zero_add _).symm rfl rfl ?_
      refine cl rfl rfl rfl (m_at (i := 4) hT) rfl (fun v H1 L1 hle hR => ?_)
      obtain ⟨rfl, rfl, c53, rfl, g53⟩ := hR
      refine fc C39_3 rfl rfl rfl ?_
      refine ls Tryz.runUnderlying36 rfl rfl ?_
      refine mv rfl rfl ?_
      refine nl ?_
      refine fr ((T.at 4).l.length) (fun k l' H' L' => ∃ (a : Option Addr), ∃ (m : Nat), ∃ (c_ : Nat), ∃ (es : List (KE 10)), ∃ (N : Chunk), [(0, .pointer (some ⟨b, 0, none⟩)), (3, .pointer (some ⟨b_1, 0, none⟩)), (54, .slice c53.la (T.at 4).l.length c53.lc), (55, .int .i64 ((T.at 4).l.length : Int))] = l' ∧ N :: [(b_1, .cells (c.cells T).toArray 39 (0, 0))] :: [(b, .cells [.int .i16 ver, .int .i32 (IntKind.i32.wrap (T.at 0).n), .bool (decide ((T.at 1).n % 2 = 1)), .int .i32 (IntKind.i32.wrap (T.at 2).n), .int .i64 (T.at 3).n, .slice a m c_, .slice none 0 0, .slice none 0 0, .map none].toArray 85 (0, 0))] :: L = L' ∧ Row 151 10 a m c_ (es.flatMap fk) N ∧ m = es.length ∧ (∀ p : KE 10, p ∈ es → At_UpdateMetadataRequestTopicPartition H' p.2 (fk p)) ∧ es.map (·.2) = ((T.at 4).l.take k).map id ∧ a.isNone = false) [(0, .pointer (some ⟨b, 0, none⟩)), (3, .pointer (some ⟨b_1, 0, none⟩)), (54, .slice c53.la (T.at 4).l.length c53.lc), (55, .int .i64 ((T.at 4).l.length : Int))] (fun k l' H' L' h => ?_) (by omega) rfl (.cons rfl (.cons rfl (.cons rfl (.cons rfl (.nil _))))) ⟨some ⟨bm49, 0, none⟩, 0, _, [], N49, rfl, rfl, r49, rfl, (fun p hp => by cases hp), (by simp), rfl⟩ rfl rfl rfl rfl rfl (fun k l' H' L' hk le_10 hI => ?_) (fun l' H' L' le_11 hI => ?_)
      · obtain ⟨a, m, c_, es, N, rfl, _⟩ := h; exact ⟨rfl, rfl, rfl, rfl⟩
      · skip
        obtain ⟨a, m, c_, es, N, rfl, rfl, pk0, pk1, pk2, pk3, pk4⟩ := hI
        refine sr ?_
        obtain ⟨b_12, o_13, e_14, g_15⟩ := (g53.l.mono le_10).at_ (ne_nil_of_lt hk)
        obtain ⟨c_16, q_17, q_18⟩ := g_15 k hk
        refine ix2 Tryz.runUnderlying36 Tryz.sizeOf39 rfl e_14 rfl rfl hk rfl ?_
        refine la (Says.fz q_17) Tryz.isAgg39 Tryz.sizeOf39 rfl (Nat.add_zero _).symm rfl rfl ?_
        refine al Tryz.zeroValue39 rfl rfl (fun b_19 => ?_)
        refine sa Tryz.sizeOf39 rfl rfl rfl rfl rfl .head ?_
        refine nl ?_
        refine rgD 11 (.keep (.skip (.keep (.keep .nil)))) mixed ?_
        refine dT 0 rfl rfl rfl (by kernel_rfl) (fun _ _ _ h => h) (y_mv rfl) (.keep (.skip (.keep (.keep .nil)))) (Fz.le.refl _) ?_
        refine dT 1 rfl rfl rfl (by kernel_rfl) (fun _ _ _ h => h) (y_mv rfl) (.keep (.skip (.keep (.keep .nil)))) (Fz.le.refl _) ?_
        refine dT 2 rfl rfl rfl (by kernel_rfl) (fun _ _ _ h => h) (y_nc rfl) (.keep (.skip (.keep (.keep .nil)))) (Fz.le.refl _) ?_
        refine dT 3 rfl rfl rfl (by kernel_rfl) (fun _ _ _ h => h) (y_fa0 F85_5 rfl) (.keep (.skip (.keep (.keep .nil)))) (Fz.le.refl _) ?_
        refine dT 4 rfl rfl rfl (by kernel_rfl) (fun _ _ _ h => h) (y_ld (Says.own (.tail (.tail .head))) Tryz.isAgg81 rfl (Nat.zero_add _).symm rfl) (.keep (.skip (.keep (.keep .nil)))) (Fz.le.refl _) ?_
        refine dT 5 rfl rfl rfl (by kernel_rfl) (fun _ _ _ h => h) (y_la (Says.own .head) Tryz.isAgg39 Tryz.sizeOf39 rfl (Nat.zero_add _).symm rfl) (.keep (.skip (.keep (.keep .nil)))) (Fz.le.refl _) ?_
        refine dE 6 (by kernel_rfl) rfl ?_
        refine cl rfl rfl rfl (make_UpdateMetadataRequestTopicPartition q_18 ((hf.at 4).el (List.getElem_mem hk))) rfl (fun v H1 L1 le_20 hR => ?_)
        obtain ⟨rfl, cs66, rfl, g66⟩ := hR
        have ho66 := At_UpdateMetadataRequestTopicPartition.ok g66
        have gg66 := g66
        obtain ⟨a5e, c5e, a7e, c7e, a8e, c8e, mte, rfl, he0, he1, he2, he3⟩ := g66
        refine dN (.keep (.skip (.keep (.keep .nil)))) le_20 ?_
        refine dE 7 (by kernel_rfl) rfl ?_
        refine bs' L81 rfl rfl rfl rfl (fun b_21 => ?_)
        refine dN (.skip (.keep (.skip (.keep (.keep .nil))))) le_20 ?_
        refine dE 8 (by kernel_rfl) rfl ?_
        have hmk : m = k := by have h1 := congrArg List.length pk3; rw [List.length_map, List.length_map, List.length_take] at h1; omega
        refine ap (news := fk ((⟨_, ho66⟩, (T.at 4).l[k]) : KE 10)) Tryz.underlying81 I151 rfl rfl pk0 (fun _ => (.tail (.tail .head))) (src_says Tryz.underlying81 rfl (fun _ => Says.own .head) (fk_one _)) (by omega) (by unfold maxLen; omega) rfl (fun a68 c68 N68 r68 z68 => ?_)
        rw [flatMap_snoc'] at r68
        have hin : a68.isNone = false := by cases a68 with | none => have := z68.1 rfl; omega | some _ => rfl
        refine dN (.skip (.keep (.skip (.keep (.keep .nil))))) le_20 ?_
        refine dE 9 (by kernel_rfl) rfl ?_
        refine nc rfl rfl ?_
        refine dN (.skip (.keep (.skip (.keep (.keep .nil))))) le_20 ?_
        refine dT 10 rfl rfl rfl (by kernel_rfl) (fun _ _ _ h => h) (y_fa0 F85_5 rfl) (.skip (.keep (.skip (.keep (.keep .nil))))) le_20 ?_
        refine dE 11 (by kernel_rfl) rfl ?_
        refine st Tryz.sizeOf81 rfl rfl rfl rfl (.tail (.tail (.tail (.tail .head)))) ?_
        refine dNk (by kernel_rfl) ?_
        refine dD (by kernel_rfl) ?_
        refine Nb ?_
        refine drN .head ?_
        refine drN .head ?_
        refine fun a_ w_ hA hw => ⟨_, _, _, hA.sub ?_, (le_10.trans le_20), hw, _, rfl, a68, _, c68, (es ++ [((⟨_, ho66⟩, (T.at 4).l[k]) : KE 10)]), N68, rfl, rfl, r68, (by simp; omega), (fun p hp => (mem_snoc hp).elim (fun h => At_UpdateMetadataRequestTopicPartition.mono _ _ _ _ le_20 (pk2 p h)) (fun h => h ▸ At_UpdateMetadataRequestTopicPartition.mono _ _ _ _ (Fz.le.refl _) gg66)), (map_take_snoc hk pk3), hin⟩
        exact (.cons rfl (.cons rfl (.cons rfl (.cons rfl (.cons rfl (.nil _))))))
      · skip
        obtain ⟨a, m, c_, es, N, rfl, rfl, pk0, pk1, pk2, pk3, pk4⟩ := hI
        refine toNn ?_
        have hm : m = (T.at 4).l.length := by have h1 := congrArg List.length pk3; rw [List.length_map, List.length_map, List.take_length] at h1; omega
        have hfe : es.map (·.2) = (T.at 4).l := by rw [pk3, List.take_length, List.map_id]
        refine frN pk0 .head (fun H2 hle2 hfz => ?_)
        have hrw := RowsAt.row (R := At_UpdateMetadataRequestTopicPartition) hfz pk1 pk0.le.1 (fun p hp => At_UpdateMetadataRequestTopicPartition.mono _ _ _ _ hle2 (pk2 p hp))
        rw [hfe, ← hlt] at hrw
        have hnl : m = (lT (T.at 4)).length := by rw [hlt]; exact hm
        have hla : ListAt H2 (T.at 4) 10 At_UpdateMetadataRequestTopicPartition a c_ := ⟨hrw, by rw [pk4, hnu]⟩
        refine fun a_ w_ hA hw => ⟨_, _, _, hA.sub ?_, (le_11.trans hle2), hw, a, m, c_, rfl, rfl, hnl, hla⟩
        exact (.cons rfl (.cons rfl (.nil _)))
    · skip
      have hnu : (T.at 4).nul = true := by simpa using h43
      refine skN ?_
      refine fun a_ w_ hA hw => ⟨_, _, _, hA.sub ?_, (Fz.le.refl _), hw, none, 0, 0, rfl, rfl, (by rw [lT_nul hnu]; rfl), (ListAt.none hnu)⟩
      exact (.cons rfl (.cons rfl (.nil _)))
  · skip
    obtain ⟨a4, n4, c4, rfl, rfl, pj0, pj1⟩ := hI
    subst pj0
    have hf4 := pj1
    refine sq ?_
    refine sr ?_
    refine la (Says.own .head) Tryz.isAgg39 Tryz.sizeOf39 rfl (Nat.zero_add _).symm rfl rfl ?_
    refine cl rfl rfl rfl (m_at (i := 5) (hT.mono le_7)) rfl (fun v H1 L1 hle hR => ?_)
    obtain ⟨rfl, rfl, c73, rfl, g73⟩ := hR
    refine fc C39_2 rfl rfl rfl ?_
    refine nt rfl rfl ?_
    refine nl ?_
    refine cutT (fun l' H' L' => ∃ (a5 : Option Addr), ∃ (n5 : Nat), ∃ (c5 : Nat), [(0, .pointer (some ⟨b, 0, none⟩)), (3, .pointer (some ⟨b_1, 0, none⟩))] = l' ∧ [(b_1, .cells (c.cells T).toArray 39 (0, 0))] :: [(b, .cells [.int .i16 ver, .int .i32 (IntKind.i32.wrap (T.at 0).n), .bool (decide ((T.at 1).n % 2 = 1)), .int .i32 (IntKind.i32.wrap (T.at 2).n), .int .i64 (T.at 3).n, .slice a4 (lT (T.at 4)).length c4, .slice a5 n5 c5, .slice none 0 0, .map none].toArray 85 (0, 0))] :: L = L' ∧ n5 = (lT (T.at 5)).length ∧ ListAt H' (T.at 5) 19 At_UpdateMetadataRequestTopicState a5 c5) ?_ (fun l' H' L' le_23 hI => ?_)
    · skip
      refine cb rfl (fun h75 => ?_) (fun h75 => ?_)
      · skip
        have hnu : (T.at 5).nul = false := by simpa using h75
        have hlt : lT (T.at 5) = (T.at 5).l := lT_not hnu
        have hfl := (hf.at 5).len
        refine sr ?_
        refine mv rfl rfl ?_
        refine la (Says.own .head) Tryz.isAgg39 Tryz.sizeOf39 rfl (Nat.zero_add _).symm rfl rfl ?_
        refine cl rfl rfl rfl (m_at (i := 5) (hT.mono le_7)) rfl (fun v H1 L1 hle hR => ?_)
        obtain ⟨rfl, rfl, c78, rfl, g78⟩ := hR
        refine fc C39_3 rfl rfl rfl ?_
        refine ls Tryz.runUnderlying36 rfl rfl ?_
        refine mks (m := 0) (c := (T.at 5).l.length) (zs := [.string ⟨#[]⟩, .int .u8 0, .int .u8 0, .int .u8 0, .int .u8 0, .int .u8 0, .int .u8 0, .int .u8 0, .int .u8 0, .int .u8 0, .int .u8 0, .int .u8 0, .int .u8 0, .int .u8 0, .int .u8 0, .int .u8 0, .int .u8 0, .slice none 0 0, .map none]) Tryz.underlying82 I154 rfl rfl rfl rfl rfl (by omega) (by omega) (by unfold maxLen; omega) rfl (fun bm81 N81 r81 => ?_)
        refine nc rfl rfl ?_
        refine fa0 F85_6 rfl rfl ?_
        refine st Tryz.sizeOf82 rfl rfl rfl rfl (.tail (.tail .head)) ?_
        refine nl ?_
        refine sr ?_
        refine la (Says.own (.tail .head)) Tryz.isAgg39 Tryz.sizeOf39 rfl (Nat.zero_add _).symm rfl rfl ?_
        refine cl rfl rfl rfl (m_at (i := 5) (hT.mono le_7)) rfl (fun v H1 L1 hle hR => ?_)
        obtain ⟨rfl, rfl, c85, rfl, g85⟩ := hR
        refine fc C39_3 rfl rfl rfl ?_
        refine ls Tryz.runUnderlying36 rfl rfl ?_
        refine mv rfl rfl ?_
        refine nl ?_
        refine fr ((T.at 5).l.length) (fun k l' H' L' => ∃ (a : Option Addr), ∃ (m : Nat), ∃ (c_ : Nat), ∃ (es : List (KE 19)), ∃ (N : Chunk), [(0, .pointer (some ⟨b, 0, none⟩)), (3, .pointer (some ⟨b_1, 0, none⟩)), (86, .slice c85.la (T.at 5).l.length c85.lc), (87, .int .i64 ((T.at 5).l.length : Int))] = l' ∧ N :: [(b_1, .cells (c.cells T).toArray 39 (0, 0))] :: [(b, .cells [.int .i16 ver, .int .i32 (IntKind.i32.wrap (T.at 0).n), .bool (decide ((T.at 1).n % 2 = 1)), .int .i32 (IntKind.i32.wrap (T.at 2).n), .int .i64 (T.at 3).n, .slice a4 (lT (T.at 4)).length c4, .slice a m c_, .slice none 0 0, .map none].toArray 85 (0, 0))] :: L = L' ∧ Row 154 19 a m c_ (es.flatMap fk) N ∧ m = es.length ∧ (∀ p : KE 19, p ∈ es → At_UpdateMetadataRequestTopicState H' p.2 (fk p)) ∧ es.map (·.2) = ((T.at 5).l.take k).map id ∧ a.isNone = false) [(0, .pointer (some ⟨b, 0, none⟩)), (3, .pointer (some ⟨b_1, 0, none⟩)), (86, .slice c85.la (T.at 5).l.length c85.lc), (87, .int .i64 ((T.at 5).l.length : Int))] (fun k l' H' L' h => ?_) (by omega) rfl (.cons rfl (.cons rfl (.cons rfl (.cons rfl (.nil _))))) ⟨some ⟨bm81, 0, none⟩, 0, _, [], N81, rfl, rfl, r81, rfl, (fun p hp => by cases hp), (by simp), rfl⟩ rfl rfl rfl rfl rfl (fun k l' H' L' hk le_26 hI => ?_) (fun l' H' L' le_27 hI => ?_)
        · obtain ⟨a, m, c_, es, N, rfl, _⟩ := h; exact ⟨rfl, rfl, rfl, rfl⟩
        · skip
          obtain ⟨a, m, c_, es, N, rfl, rfl, pk0, pk1, pk2, pk3, pk4⟩ := hI
          refine sr ?_
          obtain ⟨b_28, o_29, e_30, g_31⟩ := (g85.l.mono le_26).at_ (ne_nil_of_lt hk)
          obtain ⟨c_32, q_33, q_34⟩ := g_31 k hk
          refine ix2 Tryz.runUnderlying36 Tryz.sizeOf39 rfl e_30 rfl rfl hk rfl ?_
          refine la (Says.fz q_33) Tryz.isAgg39 Tryz.sizeOf39 rfl (Nat.add_zero _).symm rfl rfl ?_
          refine al Tryz.zeroValue39 rfl rfl (fun b_35 => ?_)
          refine sa Tryz.sizeOf39 rfl rfl rfl rfl rfl .head ?_
          refine nl ?_
          refine rgD 11 (.keep (.skip (.keep (.keep .nil)))) mixed ?_
          refine dT 0 rfl rfl rfl (by kernel_rfl) (fun _ _ _ h => h) (y_mv rfl) (.keep (.skip (.keep (.keep .nil)))) (Fz.le.refl _) ?_
          refine dT 1 rfl rfl rfl (by kernel_rfl) (fun _ _ _ h => h) (y_mv rfl) (.keep (.skip (.keep (.keep .nil)))) (Fz.le.refl _) ?_
          refine dT 2 rfl rfl rfl (by kernel_rfl) (fun _ _ _ h => h) (y_nc rfl) (.keep (.skip (.keep (.keep .nil)))) (Fz.le.refl _) ?_
          refine dT 3 rfl rfl rfl (by kernel_rfl) (fun _ _ _ h => h) (y_fa0 F85_6 rfl) (.keep (.skip (.keep (.keep .nil)))) (Fz.le.refl _) ?_
          refine dT 4 rfl rfl rfl (by kernel_rfl) (fun _ _ _ h => h) (y_ld (Says.own (.tail (.tail .head))) Tryz.isAgg82 rfl (Nat.zero_add _).symm rfl) (.keep (.skip (.keep (.keep .nil)))) (Fz.le.refl _) ?_
          refine dT 5 rfl rfl rfl (by kernel_rfl) (fun _ _ _ h => h) (y_la (Says.own .head) Tryz.isAgg39 Tryz.sizeOf39 rfl (Nat.zero_add _).symm rfl) (.keep (.skip (.keep (.keep .nil)))) (Fz.le.refl _) ?_
          refine dE 6 (by kernel_rfl) rfl ?_
          refine cl rfl rfl rfl (make_UpdateMetadataRequestTopicState q_34 ((hf.at 5).el (List.getElem_mem hk))) rfl (fun v H1 L1 le_36 hR => ?_)
          obtain ⟨rfl, cs98, rfl, g98⟩ := hR
          have ho98 := At_UpdateMetadataRequestTopicState.ok g98
          have gg98 := g98
          obtain ⟨a2e, c2e, mte, rfl, he0, he1⟩ := g98
          refine dN (.keep (.skip (.keep (.keep .nil)))) le_36 ?_
          refine dE 7 (by kernel_rfl) rfl ?_
          refine bs' L82 rfl rfl rfl rfl (fun b_37 => ?_)
          refine dN (.skip (.keep (.skip (.keep (.keep .nil))))) le_36 ?_
          refine dE 8 (by kernel_rfl) rfl ?_
          have hmk : m = k := by have h1 := congrArg List.length pk3; rw [List.length_map, List.length_map, List.length_take] at h1; omega
          refine ap (news := fk ((⟨_, ho98⟩, (T.at 5).l[k]) : KE 19)) Tryz.underlying82 I154 rfl rfl pk0 (fun _ => (.tail (.tail .head))) (src_says Tryz.underlying82 rfl (fun _ => Says.own .head) (fk_one _)) (by omega) (by unfold maxLen; omega) rfl (fun a100 c100 N100 r100 z100 => ?_)
          rw [flatMap_snoc'] at r100
          have hin : a100.isNone = false := by cases a100 with | none => have := z100.1 rfl; omega | some _ => rfl
          refine dN (.skip (.keep (.skip (.keep (.keep .nil))))) le_36 ?_
          refine dE 9 (by kernel_rfl) rfl ?_
          refine nc rfl rfl ?_
          refine dN (.skip (.keep (.skip (.keep (.keep .nil))))) le_36 ?_
          refine dT 10 rfl rfl rfl (by kernel_rfl) (fun _ _ _ h => h) (y_fa0 F85_6 rfl) (.skip (.keep (.skip (.keep (.keep .nil))))) le_36 ?_
          refine dE 11 (by kernel_rfl) rfl ?_
          refine st Tryz.sizeOf82 rfl rfl rfl rfl (.tail (.tail (.tail (.tail .head)))) ?_
          refine dNk (by kernel_rfl) ?_
          refine dD (by kernel_rfl) ?_
          refine Nb ?_
          refine drN .head ?_
          refine drN .head ?_
          refine fun a_ w_ hA hw => ⟨_, _, _, hA.sub ?_, (le_26.trans le_36), hw, _, rfl, a100, _, c100, (es ++ [((⟨_, ho98⟩, (T.at 5).l[k]) : KE 19)]), N100, rfl, rfl, r100, (by simp; omega), (fun p hp => (mem_snoc hp).elim (fun h => At_UpdateMetadataRequestTopicState.mono _ _ _ _ le_36 (pk2 p h)) (fun h => h ▸ At_UpdateMetadataRequestTopicState.mono _ _ _ _ (Fz.le.refl _) gg98)), (map_take_snoc hk pk3), hin⟩
          exact (.cons rfl (.cons rfl (.cons rfl (.cons rfl (.cons rfl (.nil _))))))
        · skip
          obtain ⟨a, m, c_, es, N, rfl, rfl, pk0, pk1, pk2, pk3, pk4⟩ := hI
          refine toNn ?_
          have hm : m = (T.at 5).l.length := by have h1 := congrArg List.length pk3; rw [List.length_map, List.length_map, List.take_length] at h1; omega
          have hfe : es.map (·.2) = (T.at 5).l := by rw [pk3, List.take_length, List.map_id]
          refine frN pk0 .head (fun H2 hle2 hfz => ?_)
          have hrw := RowsAt.row (R := At_UpdateMetadataRequestTopicState) hfz pk1 pk0.le.1 (fun p hp => At_UpdateMetadataRequestTopicState.mono _ _ _ _ hle2 (pk2 p hp))
          rw [hfe, ← hlt] at hrw
          have hnl : m = (lT (T.at 5)).length := by rw [hlt]; exact hm
          have hla : ListAt H2 (T.at 5) 19 At_UpdateMetadataRequestTopicState a c_ := ⟨hrw, by rw [pk4, hnu]⟩
          refine fun a_ w_ hA hw => ⟨_, _, _, hA.sub ?_, (le_27.trans hle2), hw, a, m, c_, rfl, rfl, hnl, hla⟩
          exact (.cons rfl (.cons rfl (.nil _)))
      · skip
        have hnu : (T.at 5).nul = true := by simpa using h75
        refine skN ?_
        refine fun a_ w_ hA hw => ⟨_, _, _, hA.sub ?_, (Fz.le.refl _), hw, none, 0, 0, rfl, rfl, (by rw [lT_nul hnu]; rfl), (ListAt.none hnu)⟩
        exact (.cons rfl (.cons rfl (.nil _)))
    · skip
      obtain ⟨a5, n5, c5, rfl, rfl, pj0, pj1⟩ := hI
      subst pj0
      have hf5 := pj1
      refine sq ?_
      refine sr ?_
      refine la (Says.own .head) Tryz.isAgg39 Tryz.sizeOf39 rfl (Nat.zero_add _).symm rfl rfl ?_
      refine cl rfl rfl rfl (m_at (i := 6) (hT.mono (le_7.trans le_23))) rfl (fun v H1 L1 hle hR => ?_)
      obtain ⟨rfl, rfl, c105, rfl, g105⟩ := hR
      refine fc C39_2 rfl rfl rfl ?_
      refine nt rfl rfl ?_
      refine nl ?_
      refine cutT (fun l' H' L' => ∃ (a6 : Option Addr), ∃ (n6 : Nat), ∃ (c6 : Nat), [(0, .pointer (some ⟨b, 0, none⟩)), (3, .pointer (some ⟨b_1, 0, none⟩))] = l' ∧ [(b_1, .cells (c.cells T).toArray 39 (0, 0))] :: [(b, .cells [.int .i16 ver, .int .i32 (IntKind.i32.wrap (T.at 0).n), .bool (decide ((T.at 1).n % 2 = 1)), .int .i32 (IntKind.i32.wrap (T.at 2).n), .int .i64 (T.at 3).n, .slice a4 (lT (T.at 4)).length c4, .slice a5 (lT (T.at 5)).length c5, .slice a6 n6 c6, .map none].toArray 85 (0, 0))] :: L = L' ∧ n6 = (lT (T.at 6)).length ∧ ListAt H' (T.at 6) 6 At_UpdateMetadataRequestLiveBroker a6 c6) ?_ (fun l' H' L' le_39 hI => ?_)
      · skip
        refine cb rfl (fun h107 => ?_) (fun h107 => ?_)
        · skip
          have hnu : (T.at 6).nul = false := by simpa using h107
          have hlt : lT (T.at 6) = (T.at 6).l := lT_not hnu
          have hfl := (hf.at 6).len
          refine sr ?_
          refine mv rfl rfl ?_
          refine la (Says.own .head) Tryz.isAgg39 Tryz.sizeOf39 rfl (Nat.zero_add _).symm rfl rfl ?_
          refine cl rfl rfl rfl (m_at (i := 6) (hT.mono (le_7.trans le_23))) rfl (fun v H1 L1 hle hR => ?_)
          obtain ⟨rfl, rfl, c110, rfl, g110⟩ := hR
          refine fc C39_3 rfl rfl rfl ?_
          refine ls Tryz.runUnderlying36 rfl rfl ?_
          refine mks (m := 0) (c := (T.at 6).l.length) (zs := [.int .i32 0, .string ⟨#[]⟩, .int .i32 0, .slice none 0 0, .pointer none, .map none]) Tryz.underlying83 I158 rfl rfl rfl rfl rfl (by omega) (by omega) (by unfold maxLen; omega) rfl (fun bm113 N113 r113 => ?_)
          refine nc rfl rfl ?_
          refine fa0 F85_7 rfl rfl ?_
          refine st Tryz.sizeOf83 rfl rfl rfl rfl (.tail (.tail .head)) ?_
          refine nl ?_
          refine sr ?_
          refine la (Says.own (.tail .head)) Tryz.isAgg39 Tryz.sizeOf39 rfl (Nat.zero_add _).symm rfl rfl ?_
          refine cl rfl rfl rfl (m_at (i := 6) (hT.mono (le_7.trans le_23))) rfl (fun v H1 L1 hle hR => ?_)
          obtain ⟨rfl, rfl, c117, rfl, g117⟩ := hR
          refine fc C39_3 rfl rfl rfl ?_
          refine ls Tryz.runUnderlying36 rfl rfl ?_
          refine mv rfl rfl ?_
          refine nl ?_
          refine fr ((T.at 6).l.length) (fun k l' H' L' => ∃ (a : Option Addr), ∃ (m : Nat), ∃ (c_ : Nat), ∃ (es : List (KE 6)), ∃ (N : Chunk), [(0, .pointer (some ⟨b, 0, none⟩)), (3, .pointer (some ⟨b_1, 0, none⟩)), (118, .slice c117.la (T.at 6).l.length c117.lc), (119, .int .i64 ((T.at 6).l.length : Int))] = l' ∧ N :: [(b_1, .cells (c.cells T).toArray 39 (0, 0))] :: [(b, .cells [.int .i16 ver, .int .i32 (IntKind.i32.wrap (T.at 0).n), .bool (decide ((T.at 1).n % 2 = 1)), .int .i32 (IntKind.i32.wrap (T.at 2).n), .int .i64 (T.at 3).n, .slice a4 (lT (T.at 4)).length c4, .slice a5 (lT (T.at 5)).length c5, .slice a m c_, .map none].toArray 85 (0, 0))] :: L = L' ∧ Row 158 6 a m c_ (es.flatMap fk) N ∧ m = es.length ∧ (∀ p : KE 6, p ∈ es → At_UpdateMetadataRequestLiveBroker H' p.2 (fk p)) ∧ es.map (·.2) = ((T.at 6).l.take k).map id ∧ a.isNone = false) [(0, .pointer (some ⟨b, 0, none⟩)), (3, .pointer (some ⟨b_1, 0, none⟩)), (118, .slice c117.la (T.at 6).l.length c117.lc), (119, .int .i64 ((T.at 6).l.length : Int))] (fun k l' H' L' h => ?_) (by omega) rfl (.cons rfl (.cons rfl (.cons rfl (.cons rfl (.nil _))))) ⟨some ⟨bm113, 0, none⟩, 0, _, [], N113, rfl, rfl, r113, rfl, (fun p hp => by cases hp), (by simp), rfl⟩ rfl rfl rfl rfl rfl (fun k l' H' L' hk le_42 hI => ?_) (fun l' H' L' le_43 hI => ?_)
          · obtain ⟨a, m, c_, es, N, rfl, _⟩ := h; exact ⟨rfl, rfl, rfl, rfl⟩
          · skip
            obtain ⟨a, m, c_, es, N, rfl, rfl, pk0, pk1, pk2, pk3, pk4⟩ := hI
            refine sr ?_
            obtain ⟨b_44, o_45, e_46, g_47⟩ := (g117.l.mono le_42).at_ (ne_nil_of_lt hk)
            obtain ⟨c_48, q_49, q_50⟩ := g_47 k hk
            refine ix2 Tryz.runUnderlying36 Tryz.sizeOf39 rfl e_46 rfl rfl hk rfl ?_
            refine la (Says.fz q_49) Tryz.isAgg39 Tryz.sizeOf39 rfl (Nat.add_zero _).symm rfl rfl ?_
            refine al Tryz.zeroValue39 rfl rfl (fun b_51 => ?_)
            refine sa Tryz.sizeOf39 rfl rfl rfl rfl rfl .head ?_
            refine nl ?_
            refine rgD 11 (.keep (.skip (.keep (.keep .nil)))) mixed ?_
            refine dT 0 rfl rfl rfl (by kernel_rfl) (fun _ _ _ h => h) (y_mv rfl) (.keep (.skip (.keep (.keep .nil)))) (Fz.le.refl _) ?_
            refine dT 1 rfl rfl rfl (by kernel_rfl) (fun _ _ _ h => h) (y_mv rfl) (.keep (.skip (.keep (.keep .nil)))) (Fz.le.refl _) ?_
            refine dT 2 rfl rfl rfl (by kernel_rfl) (fun _ _ _ h => h) (y_nc rfl) (.keep (.skip (.keep (.keep .nil)))) (Fz.le.refl _) ?_
            refine dT 3 rfl rfl rfl (by kernel_rfl) (fun _ _ _ h => h) (y_fa0 F85_7 rfl) (.keep (.skip (.keep (.keep .nil)))) (Fz.le.refl _) ?_
            refine dT 4 rfl rfl rfl (by kernel_rfl) (fun _ _ _ h => h) (y_ld (Says.own (.tail (.tail .head))) Tryz.isAgg83 rfl (Nat.zero_add _).symm rfl) (.keep (.skip (.keep (.keep .nil)))) (Fz.le.refl _) ?_
            refine dT 5 rfl rfl rfl (by kernel_rfl) (fun _ _ _ h => h) (y_la (Says.own .head) Tryz.isAgg39 Tryz.sizeOf39 rfl (Nat.zero_add _).symm rfl) (.keep (.skip (.keep (.keep .nil)))) (Fz.le.refl _) ?_
            refine dE 6 (by kernel_rfl) rfl ?_
            refine cl rfl rfl rfl (make_UpdateMetadataRequestLiveBroker q_50 ((hf.at 6).el (List.getElem_mem hk))) rfl (fun v H1 L1 le_52 hR => ?_)
            obtain ⟨rfl, cs130, rfl, g130⟩ := hR
            have ho130 := At_UpdateMetadataRequestLiveBroker.ok g130
            have gg130 := g130
            obtain ⟨a3e, c3e, p4e, mte, rfl, he0, he1, he2⟩ := g130
            refine dN (.keep (.skip (.keep (.keep .nil)))) le_52 ?_
            refine dE 7 (by kernel_rfl) rfl ?_
            refine bs' L83 rfl rfl rfl rfl (fun b_53 => ?_)
            refine dN (.skip (.keep (.skip (.keep (.keep .nil))))) le_52 ?_
            refine dE 8 (by kernel_rfl) rfl ?_
            have hmk : m = k := by have h1 := congrArg List.length pk3; rw [List.length_map, List.length_map, List.length_take] at h1; omega
            refine ap (news := fk ((⟨_, ho130⟩, (T.at 6).l[k]) : KE 6)) Tryz.underlying83 I158 rfl rfl pk0 (fun _ => (.tail (.tail .head))) (src_says Tryz.underlying83 rfl (fun _ => Says.own .head) (fk_one _)) (by omega) (by unfold maxLen; omega) rfl (fun a132 c132 N132 r132 z132 => ?_)
            rw [flatMap_snoc'] at r132
            have hin : a132.isNone = false := by cases a132 with | none => have := z132.1 rfl; omega | some _ => rfl
            refine dN (.skip (.keep (.skip (.keep (.keep .nil))))) le_52 ?_
            refine dE 9 (by kernel_rfl) rfl ?_
            refine nc rfl rfl ?_
            refine dN (.skip (.keep (.skip (.keep (.keep .nil))))) le_52 ?_
            refine dT 10 rfl rfl rfl (by kernel_rfl) (fun _ _ _ h => h) (y_fa0 F85_7 rfl) (.skip (.keep (.skip (.keep (.keep .nil))))) le_52 ?_
            refine dE 11 (by kernel_rfl) rfl ?_
            refine st Tryz.sizeOf83 rfl rfl rfl rfl (.tail (.tail (.tail (.tail .head)))) ?_
            refine dNk (by kernel_rfl) ?_
            refine dD (by kernel_rfl) ?_
            refine Nb ?_
            refine drN .head ?_
            refine drN .head ?_
            refine fun a_ w_ hA hw => ⟨_, _, _, hA.sub ?_, (le_42.trans le_52), hw, _, rfl, a132, _, c132, (es ++ [((⟨_, ho130⟩, (T.at 6).l[k]) : KE 6)]), N132, rfl, rfl, r132, (by simp; omega), (fun p hp => (mem_snoc hp).elim (fun h => At_UpdateMetadataRequestLiveBroker.mono _ _ _ _ le_52 (pk2 p h)) (fun h => h ▸ At_UpdateMetadataRequestLiveBroker.mono _ _ _ _ (Fz.le.refl _) gg130)), (map_take_snoc hk pk3), hin⟩
            exact (.cons rfl (.cons rfl (.cons rfl (.cons rfl (.cons rfl (.nil _))))))
          · skip
            obtain ⟨a, m, c_, es, N, rfl, rfl, pk0, pk1, pk2, pk3, pk4⟩ := hI
            refine toNn ?_
            have hm : m = (T.at 6).l.length := by have h1 := congrArg List.length pk3; rw [List.length_map, List.length_map, List.take_length] at h1; omega
            have hfe : es.map (·.2) = (T.at 6).l := by rw [pk3, List.take_length, List.map_id]
            refine frN pk0 .head (fun H2 hle2 hfz => ?_)
            have hrw := RowsAt.row (R := At_UpdateMetadataRequestLiveBroker) hfz pk1 pk0.le.1 (fun p hp => At_UpdateMetadataRequestLiveBroker.mono _ _ _ _ hle2 (pk2 p hp))
            rw [hfe, ← hlt] at hrw
            have hnl : m = (lT (T.at 6)).length := by rw [hlt]; exact hm
            have hla : ListAt H2 (T.at 6) 6 At_UpdateMetadataRequestLiveBroker a c_ := ⟨hrw, by rw [pk4, hnu]⟩
            refine fun a_ w_ hA hw => ⟨_, _, _, hA.sub ?_, (le_43.trans hle2), hw, a, m, c_, rfl, rfl, hnl, hla⟩
            exact (.cons rfl (.cons rfl (.nil _)))
        · skip
          have hnu : (T.at 6).nul = true := by simpa using h107
          refine skN ?_
          refine fun a_ w_ hA hw => ⟨_, _, _, hA.sub ?_, (Fz.le.refl _), hw, none, 0, 0, rfl, rfl, (by rw [lT_nul hnu]; rfl), (ListAt.none hnu)⟩
          exact (.cons rfl (.cons rfl (.nil _)))
      · skip
        obtain ⟨a6, n6, c6, rfl, rfl, pj0, pj1⟩ := hI
        subst pj0
        have hf6 := pj1
        refine sr ?_
        refine fa0 F39_4 rfl rfl ?_
        refine ld (Says.own .head) Tryz.isAgg37 rfl (Nat.zero_add _).symm rfl rfl ?_
        refine ls Tryz.runUnderlying37 rfl rfl ?_
        refine mv rfl rfl ?_
        refine nl ?_
        refine nulC2 ?_
        have hun := hf.un
        refine fr (T.u.length) (fun q l' H' L' => ∃ (m : Option Nat), ∃ (kvs : List KV), ∃ (M : Chunk), [(0, .pointer (some ⟨b, 0, none⟩)), (137, .slice c.ua T.u.length c.uc), (138, .int .i64 (T.u.length : Int))] = l' ∧ M :: [(b_1, .cells (c.cells T).toArray 39 (0, 0))] :: [(b, .cells [.int .i16 ver, .int .i32 (IntKind.i32.wrap (T.at 0).n), .bool (decide ((T.at 1).n % 2 = 1)), .int .i32 (IntKind.i32.wrap (T.at 2).n), .int .i64 (T.at 3).n, .slice a4 (lT (T.at 4)).length c4, .slice a5 (lT (T.at 5)).length c5, .slice a6 (lT (T.at 6)).length c6, .map m].toArray 85 (0, 0))] :: L = L' ∧ MapC m kvs M ∧ KvTo H' (T.u.take q) kvs) [(0, .pointer (some ⟨b, 0, none⟩)), (137, .slice c.ua T.u.length c.uc), (138, .int .i64 (T.u.length : Int))] (fun q l' H' L' h => ?_) (by omega) rfl (.cons rfl (.cons rfl (.cons rfl (.nil _)))) ⟨none, [], [], rfl, rfl, MapC.nil, (KvTo.nil _)⟩ rfl rfl rfl rfl rfl (fun q l' H' L' hq le_54 hI => ?_) (fun l' H' L' le_55 hI => ?_)
        · obtain ⟨m, kvs, M, rfl, _⟩ := h; exact ⟨rfl, rfl, rfl, rfl⟩
        · skip
          obtain ⟨m, kvs, M, rfl, rfl, pq0, pq1⟩ := hI
          refine sr ?_
          obtain ⟨b_56, o_57, e_58, g_59⟩ := (hT.u.mono (le_7.trans (le_23.trans (le_39.trans le_54)))).at_ (ne_nil_of_lt hq)
          obtain ⟨c_60, q_61, q_62⟩ := g_59 q hq
          refine ix2 Tryz.runUnderlying37 Tryz.sizeOf65 rfl e_58 rfl rfl hq rfl ?_
          refine la (Says.fz q_61) Tryz.isAgg65 Tryz.sizeOf65 rfl (Nat.add_zero _).symm rfl rfl ?_
          refine al Tryz.zeroValue65 rfl rfl (fun b_63 => ?_)
          refine sa Tryz.sizeOf65 rfl rfl rfl rfl rfl .head ?_
          refine nl ?_
          refine rgD 8 (.keep (.skip (.keep .nil))) mixed ?_
          refine dT 0 rfl rfl rfl (by kernel_rfl) (fun _ _ _ h => h) (y_mv rfl) (.keep (.skip (.keep .nil))) (Fz.le.refl _) ?_
          refine dT 1 rfl rfl rfl (by kernel_rfl) (fun _ _ _ h => h) (y_nc rfl) (.keep (.skip (.keep .nil))) (Fz.le.refl _) ?_
          refine dT 2 rfl rfl rfl (by kernel_rfl) (fun _ _ _ h => h) (y_fa0 F85_8 rfl) (.keep (.skip (.keep .nil))) (Fz.le.refl _) ?_
          refine dT 3 rfl rfl rfl (by kernel_rfl) (fun _ _ _ h => h) (y_fa0 F65_0 rfl) (.keep (.skip (.keep .nil))) (Fz.le.refl _) ?_
          refine dT 4 rfl rfl rfl (by kernel_rfl) (fun _ _ _ h => h) (y_ld (Says.own .head) Tryz.isAgg62 rfl (Nat.zero_add _).symm rfl) (.keep (.skip (.keep .nil))) (Fz.le.refl _) ?_
          refine dT 5 rfl rfl rfl (by kernel_rfl) (fun _ _ _ h => h) (y_fa0 F65_1 rfl) (.keep (.skip (.keep .nil))) (Fz.le.refl _) ?_
          refine dT 6 rfl rfl rfl (by kernel_rfl) (fun _ _ _ h => h) (y_ld (Says.own .head) Tryz.isAgg22 rfl (Nat.zero_add _).symm rfl) (.keep (.skip (.keep .nil))) (Fz.le.refl _) ?_
          refine dE 7 (by kernel_rfl) rfl ?_
          refine tf (.tail (.tail (.tail .head))) ?_
          refine tf (.tail (.tail .head)) ?_
          refine cl rfl rfl rfl (t_set (cs := [.int .i16 ver, .int .i32 (IntKind.i32.wrap (T.at 0).n), .bool (decide ((T.at 1).n % 2 = 1)), .int .i32 (IntKind.i32.wrap (T.at 2).n), .int .i64 (T.at 3).n, .slice a4 (lT (T.at 4)).length c4, .slice a5 (lT (T.at 5)).length c5, .slice a6 (lT (T.at 6)).length c6, .map m]) (off := 8) pq0 rfl) rfl (fun v H1 L1 hle hR => ?_)
          obtain ⟨rfl, g150, cs150, hs150, rfl⟩ := hR
          obtain rfl : [.int .i16 ver, .int .i32 (IntKind.i32.wrap (T.at 0).n), .bool (decide ((T.at 1).n % 2 = 1)), .int .i32 (IntKind.i32.wrap (T.at 2).n), .int .i64 (T.at 3).n, .slice a4 (lT (T.at 4)).length c4, .slice a5 (lT (T.at 5)).length c5, .slice a6 (lT (T.at 6)).length c6, .map (some g150)] = cs150 := Option.some.inj hs150
          refine dN (.skip (.skip (.keep (.keep .nil)))) (Fz.le.refl _) ?_
          refine dD (by kernel_rfl) ?_
          refine Nb ?_
          refine drN (.tail (.tail .head)) ?_
          refine tfN (.tail .head) ?_
          refine tfN (.tail (.tail .head)) ?_
          refine tfN (.tail (.tail .head)) ?_
          refine fun a_ w_ hA hw => ⟨_, _, _, hA.sub ?_, le_54, hw, _, rfl, _, _, [(g150, _)], rfl, rfl, (.inr ⟨g150, rfl, rfl⟩), (KvTo.put hf.u (List.getElem?_eq_getElem hq) pq1 (⟨⟨_, _, rfl, q_62.val⟩, q_62.lo, q_62.hi⟩))⟩
          exact (.cons rfl (.cons rfl (.cons rfl (.cons rfl (.nil _)))))
        · skip
          obtain ⟨m, kvs, M, rfl, rfl, pq0, pq1⟩ := hI
          refine toNn ?_
          rw [List.take_length] at pq1
          refine frMN pq0 .head (fun H3 hle3 hmf => ?_)
          have hft := KvTo.at_ hf.u (pq1.mono hle3) hmf
          refine drN .head ?_
          exact fun _ _ hA hw => rn rfl (le_7.trans (le_23.trans (le_39.trans (le_55.trans hle3)))) ⟨_, rfl, ⟨a4, c4, a5, c5, a6, c6, m, rfl, (hf4.mono At_UpdateMetadataRequestTopicPartition.mono (le_23.trans (le_39.trans (le_55.trans hle3)))), (hf5.mono At_UpdateMetadataRequestTopicState.mono (le_39.trans (le_55.trans hle3))), (hf6.mono At_UpdateMetadataRequestLiveBroker.mono (le_55.trans hle3)), hft⟩⟩ hA hw
end Go.Sx

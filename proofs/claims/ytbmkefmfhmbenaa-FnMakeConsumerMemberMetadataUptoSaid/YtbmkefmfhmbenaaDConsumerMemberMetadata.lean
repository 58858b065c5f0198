import Derived.Test.YtbmkefmfhmbenaaBConsumerMemberMetadata
import Derived.Test.YtbmkefmfhmbenaaD0
import Derived.KernelRfl
set_option linter.unusedVariables false
set_option linter.unusedSimpArgs false
set_option maxRecDepth 100000
set_option maxHeartbeats 20000000
namespace Go.Sx
open Go.Proofs
theorem make_ConsumerMemberMetadataOwnedPartition {H : Fz} {L : Own} {c : TC} {T : Tr} (hT : TreeAt H c T) (hf : Fine T) :
    Fn Try.prog 76 [.agg (c.cells T).toArray] H L (fun v H' L' => L = L' ∧ ∃ cs : List Value, v = .agg cs.toArray ∧ At_ConsumerMemberMetadataOwnedPartition H' T cs) := by
  refine Fn.mk Try.call76 Try.func76 rfl Try.ntmps76 rfl ?_
  refine sr ?_
  refine bx rfl rfl rfl (fun b_1 => ?_)
  refine al Try.zeroValue116 rfl rfl (fun b_2 => ?_)
  refine nl ?_
  refine sr ?_
  refine al Try.zeroValue116 rfl rfl (fun b_3 => ?_)
  refine nl ?_
  refine sr ?_
  refine la (Says.own (.tail (.tail .head))) Try.isAgg39 Try.sizeOf39 rfl (Nat.zero_add _).symm rfl rfl ?_
  refine cl rfl rfl rfl (m_at (i := 0) hT) rfl (fun v H1 L1 hle hR => ?_)
  obtain ⟨rfl, rfl, c7, rfl, g7⟩ := hR
  refine fc C39_1 rfl rfl rfl ?_
  refine cbS Try.underlying22 Try.underlying5 Try.underlying9 rfl g7.s rfl rfl ?_
  refine fa0 F116_0 rfl rfl ?_
  refine st Try.sizeOf9 rfl rfl rfl rfl .head ?_
  refine nl ?_
  refine sq ?_
  refine sr ?_
  refine la (Says.own (.tail (.tail .head))) Try.isAgg39 Try.sizeOf39 rfl (Nat.zero_add _).symm rfl rfl ?_
  refine cl rfl rfl rfl (m_at (i := 1) hT) rfl (fun v H1 L1 hle hR => ?_)
  obtain ⟨rfl, rfl, c12, rfl, g12⟩ := hR
  refine fc C39_2 rfl rfl rfl ?_
  refine nt rfl rfl ?_
  refine nl ?_
  refine cutT (fun l' H' L' => ∃ (a1 : Option Addr), ∃ (n1 : Nat), ∃ (c1 : Nat), [(2, .pointer (some ⟨b_2, 0, none⟩)), (3, .pointer (some ⟨b_3, 0, none⟩))] = l' ∧ [(b_3, .cells [.string ⟨(T.at 0).s.toArray⟩, .slice a1 n1 c1].toArray 116 (0, 0))] :: [(b_2, .cells [.string ⟨#[]⟩, .slice none 0 0].toArray 116 (0, 0))] :: [(b_1, .cells (c.cells T).toArray 39 (0, 0))] :: L = L' ∧ n1 = (lT (T.at 1)).length ∧ ListAt H' (T.at 1) 1 RI32 a1 c1) ?_ (fun l' H' L' le_6 hI => ?_)
  · skip
    refine cb rfl (fun h14 => ?_) (fun h14 => ?_)
    · skip
      have hnu : (T.at 1).nul = false := by simpa using h14
      have hlt : lT (T.at 1) = (T.at 1).l := lT_not hnu
      have hfl := (hf.at 1).len
      refine sr ?_
      refine la (Says.own (.tail (.tail .head))) Try.isAgg39 Try.sizeOf39 rfl (Nat.zero_add _).symm rfl rfl ?_
      refine cl rfl rfl rfl (m_at (i := 1) hT) rfl (fun v H1 L1 hle hR => ?_)
      obtain ⟨rfl, rfl, c16, rfl, g16⟩ := hR
      refine fc C39_3 rfl rfl rfl ?_
      refine ls Try.runUnderlying36 rfl rfl ?_
      refine mks (m := 0) (c := (T.at 1).l.length) (zs := [.int .i32 0]) Try.underlying114 I21 rfl rfl rfl rfl rfl (by omega) (by omega) (by unfold maxLen; omega) rfl (fun bm19 N19 r19 => ?_)
      refine fa0 F116_1 rfl rfl ?_
      refine st Try.sizeOf114 rfl rfl rfl rfl (.tail .head) ?_
      refine nl ?_
      refine sr ?_
      refine la (Says.own (.tail (.tail (.tail .head)))) Try.isAgg39 Try.sizeOf39 rfl (Nat.zero_add _).symm rfl rfl ?_
      refine cl rfl rfl rfl (m_at (i := 1) hT) rfl (fun v H1 L1 hle hR => ?_)
      obtain ⟨rfl, rfl, c22, rfl, g22⟩ := hR
      refine fc C39_3 rfl rfl rfl ?_
      refine ls Try.runUnderlying36 rfl rfl ?_
      refine mv rfl rfl ?_
      refine nl ?_
      refine fr ((T.at 1).l.length) (fun k l' H' L' => ∃ (a : Option Addr), ∃ (m : Nat), ∃ (c_ : Nat), ∃ (es : List (KE 1)), ∃ (N : Chunk), [(2, .pointer (some ⟨b_2, 0, none⟩)), (3, .pointer (some ⟨b_3, 0, none⟩)), (23, .slice c22.la (T.at 1).l.length c22.lc), (24, .int .i64 ((T.at 1).l.length : Int))] = l' ∧ N :: [(b_3, .cells [.string ⟨(T.at 0).s.toArray⟩, .slice a m c_].toArray 116 (0, 0))] :: [(b_2, .cells [.string ⟨#[]⟩, .slice none 0 0].toArray 116 (0, 0))] :: [(b_1, .cells (c.cells T).toArray 39 (0, 0))] :: L = L' ∧ Row 21 1 a m c_ (es.flatMap fk) N ∧ m = es.length ∧ (∀ p : KE 1, p ∈ es → RI32 H' p.2 (fk p)) ∧ es.map (·.2) = ((T.at 1).l.take k).map id ∧ a.isNone = false) [(2, .pointer (some ⟨b_2, 0, none⟩)), (3, .pointer (some ⟨b_3, 0, none⟩)), (23, .slice c22.la (T.at 1).l.length c22.lc), (24, .int .i64 ((T.at 1).l.length : Int))] (fun k l' H' L' h => ?_) (by omega) rfl (.cons rfl (.cons rfl (.cons rfl (.cons rfl (.nil _))))) ⟨some ⟨bm19, 0, none⟩, 0, _, [], N19, rfl, rfl, r19, rfl, (fun p hp => by cases hp), (by simp), rfl⟩ rfl rfl rfl rfl rfl (fun k l' H' L' hk le_9 hI => ?_) (fun l' H' L' le_10 hI => ?_)
      · obtain ⟨a, m, c_, es, N, rfl, _⟩ := h; exact ⟨rfl, rfl, rfl, rfl⟩
      · skip
        obtain ⟨a, m, c_, es, N, rfl, rfl, pk0, pk1, pk2, pk3, pk4⟩ := hI
        refine sr ?_
        obtain ⟨b_11, o_12, e_13, g_14⟩ := (g22.l.mono le_9).at_ (ne_nil_of_lt hk)
        obtain ⟨c_15, q_16, q_17⟩ := g_14 k hk
        refine ix2 Try.runUnderlying36 Try.sizeOf39 rfl e_13 rfl rfl hk rfl ?_
        refine la (Says.fz q_16) Try.isAgg39 Try.sizeOf39 rfl (Nat.add_zero _).symm rfl rfl ?_
        refine al Try.zeroValue39 rfl rfl (fun b_18 => ?_)
        refine sa Try.sizeOf39 rfl rfl rfl rfl rfl .head ?_
        refine nl ?_
        refine rg ?_
        refine fa0 F116_1 rfl rfl ?_
        refine ld (Says.own (.tail (.tail .head))) Try.isAgg114 rfl (Nat.zero_add _).symm rfl rfl ?_
        refine fa0 F39_0 rfl rfl ?_
        refine ld (Says.own .head) Try.isAgg2 rfl (Nat.zero_add _).symm rfl rfl ?_
        refine cv Try.runUnderlying2 Try.runUnderlying21 rfl rfl rfl ?_
        refine bs' L114 rfl rfl rfl rfl (fun b_19 => ?_)
        have hmk : m = k := by have h1 := congrArg List.length pk3; rw [List.length_map, List.length_map, List.length_take] at h1; omega
        refine ap (news := fk ((⟨[.int .i32 (IntKind.i32.wrap ((T.at 1).l[k]).n)], rfl, by simp [Value.oneCell', u16, ub]⟩, (T.at 1).l[k]) : KE 1)) Try.underlying114 I21 rfl rfl pk0 (fun _ => (.tail (.tail .head))) (src_says Try.underlying114 rfl (fun _ => Says.own .head) (fk_one _)) (by omega) (by unfold maxLen; omega) rfl (fun a35 c35 N35 r35 z35 => ?_)
        rw [flatMap_snoc'] at r35
        have hin : a35.isNone = false := by cases a35 with | none => have := z35.1 rfl; omega | some _ => rfl
        refine fa0 F116_1 rfl rfl ?_
        refine st Try.sizeOf114 rfl rfl rfl rfl (.tail (.tail (.tail .head))) ?_
        refine nN ?_
        refine Nb ?_
        refine drN .head ?_
        refine drN .head ?_
        refine fun a_ w_ hA hw => ⟨_, _, _, hA.sub ?_, le_9, hw, _, rfl, a35, _, c35, (es ++ [((⟨[.int .i32 (IntKind.i32.wrap ((T.at 1).l[k]).n)], rfl, by simp [Value.oneCell', u16, ub]⟩, (T.at 1).l[k]) : KE 1)]), N35, rfl, rfl, r35, (by simp; omega), (fun p hp => (mem_snoc hp).elim (fun h => RI32.mono _ _ _ _ (Fz.le.refl _) (pk2 p h)) (fun h => h ▸ RI32.mono _ _ _ _ (Fz.le.refl _) (rfl : RI32 _ _ _))), (map_take_snoc hk pk3), hin⟩
        exact (.cons rfl (.cons rfl (.cons rfl (.cons rfl (.cons rfl (.nil _))))))
      · skip
        obtain ⟨a, m, c_, es, N, rfl, rfl, pk0, pk1, pk2, pk3, pk4⟩ := hI
        refine toNn ?_
        have hm : m = (T.at 1).l.length := by have h1 := congrArg List.length pk3; rw [List.length_map, List.length_map, List.take_length] at h1; omega
        have hfe : es.map (·.2) = (T.at 1).l := by rw [pk3, List.take_length, List.map_id]
        refine frN pk0 .head (fun H2 hle2 hfz => ?_)
        have hrw := RowsAt.row (R := RI32) hfz pk1 pk0.le.1 (fun p hp => RI32.mono _ _ _ _ hle2 (pk2 p hp))
        rw [hfe, ← hlt] at hrw
        have hnl : m = (lT (T.at 1)).length := by rw [hlt]; exact hm
        have hla : ListAt H2 (T.at 1) 1 RI32 a c_ := ⟨hrw, by rw [pk4, hnu]⟩
        refine fun a_ w_ hA hw => ⟨_, _, _, hA.sub ?_, (le_10.trans hle2), hw, a, m, c_, rfl, rfl, hnl, hla⟩
        exact (.cons rfl (.cons rfl (.nil _)))
    · skip
      have hnu : (T.at 1).nul = true := by simpa using h14
      refine skN ?_
      refine fun a_ w_ hA hw => ⟨_, _, _, hA.sub ?_, (Fz.le.refl _), hw, none, 0, 0, rfl, rfl, (by rw [lT_nul hnu]; rfl), (ListAt.none hnu)⟩
      exact (.cons rfl (.cons rfl (.nil _)))
  · skip
    obtain ⟨a1, n1, c1, rfl, rfl, pj0, pj1⟩ := hI
    subst pj0
    have hf1 := pj1
    refine sr ?_
    refine la (Says.own .head) Try.isAgg116 Try.sizeOf116 rfl (Nat.zero_add _).symm rfl rfl ?_
    refine sa Try.sizeOf116 rfl rfl rfl rfl rfl (.tail .head) ?_
    refine nl ?_
    refine drW .head ?_
    refine drW (.tail .head) ?_
    exact rC rfl Try.isAgg116 Try.sizeOf116 rfl .head rfl le_6 (fun _ _ h => h) ⟨rfl, _, rfl, ⟨a1, c1, rfl, hf1⟩⟩
theorem fill_ConsumerMemberMetadata {H : Fz} {L : Own} {b : Nat} {ver : Int} {c : TC} {T : Tr} (hT : TreeAt H c T) (hf : Fine T) :
    Fn Try.prog 42 [.pointer (some ⟨b, 0, none⟩), .agg (c.cells T).toArray] H ([(b, .cells [.int .i16 ver, .slice none 0 0, .slice none 0 0, .slice none 0 0, .int .i32 0, .pointer none].toArray 71 (0, 0))] :: L) (fun _ H' L' => ∃ cs : List Value, L' = [(b, .cells cs.toArray 71 (0, 0))] :: L ∧ At_ConsumerMemberMetadata ver H' T cs) := by
  refine Fn.mk Try.call42 Try.func42 rfl Try.ntmps42 rfl ?_
  refine sr ?_
  refine bx rfl rfl rfl (fun b_1 => ?_)
  refine nl ?_
  refine sq ?_
  refine sr ?_
  refine la (Says.own .head) Try.isAgg39 Try.sizeOf39 rfl (Nat.zero_add _).symm rfl rfl ?_
  refine cl rfl rfl rfl (m_at (i := 0) hT) rfl (fun v H1 L1 hle hR => ?_)
  obtain ⟨rfl, rfl, c9, rfl, g9⟩ := hR
  refine fc C39_2 rfl rfl rfl ?_
  refine nt rfl rfl ?_
  refine nl ?_
  refine cutT (fun l' H' L' => ∃ (a0 : Option Addr), ∃ (n0 : Nat), ∃ (c0 : Nat), [(0, .pointer (some ⟨b, 0, none⟩)), (3, .pointer (some ⟨b_1, 0, none⟩))] = l' ∧ [(b_1, .cells (c.cells T).toArray 39 (0, 0))] :: [(b, .cells [.int .i16 ver, .slice a0 n0 c0, .slice none 0 0, .slice none 0 0, .int .i32 0, .pointer none].toArray 71 (0, 0))] :: L = L' ∧ n0 = (lT (T.at 0)).length ∧ ListAt H' (T.at 0) 1 RText a0 c0) ?_ (fun l' H' L' le_3 hI => ?_)
  · skip
    refine cb rfl (fun h11 => ?_) (fun h11 => ?_)
    · skip
      have hnu : (T.at 0).nul = false := by simpa using h11
      have hlt : lT (T.at 0) = (T.at 0).l := lT_not hnu
      have hfl := (hf.at 0).len
      refine sr ?_
      refine mv rfl rfl ?_
      refine la (Says.own .head) Try.isAgg39 Try.sizeOf39 rfl (Nat.zero_add _).symm rfl rfl ?_
      refine cl rfl rfl rfl (m_at (i := 0) hT) rfl (fun v H1 L1 hle hR => ?_)
      obtain ⟨rfl, rfl, c14, rfl, g14⟩ := hR
      refine fc C39_3 rfl rfl rfl ?_
      refine ls Try.runUnderlying36 rfl rfl ?_
      refine mks (m := 0) (c := (T.at 0).l.length) (zs := [.string ⟨#[]⟩]) Try.underlying67 I9 rfl rfl rfl rfl rfl (by omega) (by omega) (by unfold maxLen; omega) rfl (fun bm17 N17 r17 => ?_)
      refine nc rfl rfl ?_
      refine fa0 F71_1 rfl rfl ?_
      refine st Try.sizeOf67 rfl rfl rfl rfl (.tail (.tail .head)) ?_
      refine nl ?_
      refine sr ?_
      refine la (Says.own (.tail .head)) Try.isAgg39 Try.sizeOf39 rfl (Nat.zero_add _).symm rfl rfl ?_
      refine cl rfl rfl rfl (m_at (i := 0) hT) rfl (fun v H1 L1 hle hR => ?_)
      obtain ⟨rfl, rfl, c21, rfl, g21⟩ := hR
      refine fc C39_3 rfl rfl rfl ?_
      refine ls Try.runUnderlying36 rfl rfl ?_
      refine mv rfl rfl ?_
      refine nl ?_
      refine fr ((T.at 0).l.length) (fun k l' H' L' => ∃ (a : Option Addr), ∃ (m : Nat), ∃ (c_ : Nat), ∃ (es : List (KE 1)), ∃ (N : Chunk), [(0, .pointer (some ⟨b, 0, none⟩)), (3, .pointer (some ⟨b_1, 0, none⟩)), (22, .slice c21.la (T.at 0).l.length c21.lc), (23, .int .i64 ((T.at 0).l.length : Int))] = l' ∧ N :: [(b_1, .cells (c.cells T).toArray 39 (0, 0))] :: [(b, .cells [.int .i16 ver, .slice a m c_, .slice none 0 0, .slice none 0 0, .int .i32 0, .pointer none].toArray 71 (0, 0))] :: L = L' ∧ Row 9 1 a m c_ (es.flatMap fk) N ∧ m = es.length ∧ (∀ p : KE 1, p ∈ es → RText H' p.2 (fk p)) ∧ es.map (·.2) = ((T.at 0).l.take k).map id ∧ a.isNone = false) [(0, .pointer (some ⟨b, 0, none⟩)), (3, .pointer (some ⟨b_1, 0, none⟩)), (22, .slice c21.la (T.at 0).l.length c21.lc), (23, .int .i64 ((T.at 0).l.length : Int))] (fun k l' H' L' h => ?_) (by omega) rfl (.cons rfl (.cons rfl (.cons rfl (.cons rfl (.nil _))))) ⟨some ⟨bm17, 0, none⟩, 0, _, [], N17, rfl, rfl, r17, rfl, (fun p hp => by cases hp), (by simp), rfl⟩ rfl rfl rfl rfl rfl (fun k l' H' L' hk le_6 hI => ?_) (fun l' H' L' le_7 hI => ?_)
      · obtain ⟨a, m, c_, es, N, rfl, _⟩ := h; exact ⟨rfl, rfl, rfl, rfl⟩
      · skip
        obtain ⟨a, m, c_, es, N, rfl, rfl, pk0, pk1, pk2, pk3, pk4⟩ := hI
        refine sr ?_
        obtain ⟨b_8, o_9, e_10, g_11⟩ := (g21.l.mono le_6).at_ (ne_nil_of_lt hk)
        obtain ⟨c_12, q_13, q_14⟩ := g_11 k hk
        refine ix2 Try.runUnderlying36 Try.sizeOf39 rfl e_10 rfl rfl hk rfl ?_
        refine la (Says.fz q_13) Try.isAgg39 Try.sizeOf39 rfl (Nat.add_zero _).symm rfl rfl ?_
        refine al Try.zeroValue39 rfl rfl (fun b_15 => ?_)
        refine sa Try.sizeOf39 rfl rfl rfl rfl rfl .head ?_
        refine nl ?_
        refine rgD 12 (.keep (.skip (.keep (.keep .nil)))) mixed ?_
        refine dT 0 rfl rfl rfl (by kernel_rfl) (fun _ _ _ h => h) (y_mv rfl) (.keep (.skip (.keep (.keep .nil)))) (Fz.le.refl _) ?_
        refine dT 1 rfl rfl rfl (by kernel_rfl) (fun _ _ _ h => h) (y_mv rfl) (.keep (.skip (.keep (.keep .nil)))) (Fz.le.refl _) ?_
        refine dT 2 rfl rfl rfl (by kernel_rfl) (fun _ _ _ h => h) (y_nc rfl) (.keep (.skip (.keep (.keep .nil)))) (Fz.le.refl _) ?_
        refine dT 3 rfl rfl rfl (by kernel_rfl) (fun _ _ _ h => h) (y_fa0 F71_1 rfl) (.keep (.skip (.keep (.keep .nil)))) (Fz.le.refl _) ?_
        refine dT 4 rfl rfl rfl (by kernel_rfl) (fun _ _ _ h => h) (y_ld (Says.own (.tail (.tail .head))) Try.isAgg67 rfl (Nat.zero_add _).symm rfl) (.keep (.skip (.keep (.keep .nil)))) (Fz.le.refl _) ?_
        refine dT 5 rfl rfl rfl (by kernel_rfl) (fun _ _ _ h => h) (y_fa0 F39_1 rfl) (.keep (.skip (.keep (.keep .nil)))) (Fz.le.refl _) ?_
        refine dT 6 rfl rfl rfl (by kernel_rfl) (fun _ _ _ h => h) (y_ld (Says.own .head) Try.isAgg22 rfl (Nat.zero_add _).symm rfl) (.keep (.skip (.keep (.keep .nil)))) (Fz.le.refl _) ?_
        refine dE 7 (by kernel_rfl) rfl ?_
        refine cbS Try.underlying22 Try.underlying5 Try.underlying9 rfl q_14.s rfl rfl ?_
        refine dN (.keep (.skip (.keep (.keep .nil)))) (Fz.le.refl _) ?_
        refine dE 8 (by kernel_rfl) rfl ?_
        refine bs' L67 rfl rfl rfl rfl (fun b_16 => ?_)
        refine dN (.skip (.keep (.skip (.keep (.keep .nil))))) (Fz.le.refl _) ?_
        refine dE 9 (by kernel_rfl) rfl ?_
        have hmk : m = k := by have h1 := congrArg List.length pk3; rw [List.length_map, List.length_map, List.length_take] at h1; omega
        refine ap (news := fk ((⟨[.string ⟨((T.at 0).l[k]).s.toArray⟩], rfl, by simp [Value.oneCell', u16, ub]⟩, (T.at 0).l[k]) : KE 1)) Try.underlying67 I9 rfl rfl pk0 (fun _ => (.tail (.tail .head))) (src_says Try.underlying67 rfl (fun _ => Says.own .head) (fk_one _)) (by omega) (by unfold maxLen; omega) rfl (fun a37 c37 N37 r37 z37 => ?_)
        rw [flatMap_snoc'] at r37
        have hin : a37.isNone = false := by cases a37 with | none => have := z37.1 rfl; omega | some _ => rfl
        refine dN (.skip (.keep (.skip (.keep (.keep .nil))))) (Fz.le.refl _) ?_
        refine dE 10 (by kernel_rfl) rfl ?_
        refine nc rfl rfl ?_
        refine dN (.skip (.keep (.skip (.keep (.keep .nil))))) (Fz.le.refl _) ?_
        refine dT 11 rfl rfl rfl (by kernel_rfl) (fun _ _ _ h => h) (y_fa0 F71_1 rfl) (.skip (.keep (.skip (.keep (.keep .nil))))) (Fz.le.refl _) ?_
        refine dE 12 (by kernel_rfl) rfl ?_
        refine st Try.sizeOf67 rfl rfl rfl rfl (.tail (.tail (.tail (.tail .head)))) ?_
        refine dNk (by kernel_rfl) ?_
        refine dD (by kernel_rfl) ?_
        refine Nb ?_
        refine drN .head ?_
        refine drN .head ?_
        refine fun a_ w_ hA hw => ⟨_, _, _, hA.sub ?_, le_6, hw, _, rfl, a37, _, c37, (es ++ [((⟨[.string ⟨((T.at 0).l[k]).s.toArray⟩], rfl, by simp [Value.oneCell', u16, ub]⟩, (T.at 0).l[k]) : KE 1)]), N37, rfl, rfl, r37, (by simp; omega), (fun p hp => (mem_snoc hp).elim (fun h => RText.mono _ _ _ _ (Fz.le.refl _) (pk2 p h)) (fun h => h ▸ RText.mono _ _ _ _ (Fz.le.refl _) (rfl : RText _ _ _))), (map_take_snoc hk pk3), hin⟩
        exact (.cons rfl (.cons rfl (.cons rfl (.cons rfl (.cons rfl (.nil _))))))
      · skip
        obtain ⟨a, m, c_, es, N, rfl, rfl, pk0, pk1, pk2, pk3, pk4⟩ := hI
        refine toNn ?_
        have hm : m = (T.at 0).l.length := by have h1 := congrArg List.length pk3; rw [List.length_map, List.length_map, List.take_length] at h1; omega
        have hfe : es.map (·.2) = (T.at 0).l := by rw [pk3, List.take_length, List.map_id]
        refine frN pk0 .head (fun H2 hle2 hfz => ?_)
        have hrw := RowsAt.row (R := RText) hfz pk1 pk0.le.1 (fun p hp => RText.mono _ _ _ _ hle2 (pk2 p hp))
        rw [hfe, ← hlt] at hrw
        have hnl : m = (lT (T.at 0)).length := by rw [hlt]; exact hm
        have hla : ListAt H2 (T.at 0) 1 RText a c_ := ⟨hrw, by rw [pk4, hnu]⟩
        refine fun a_ w_ hA hw => ⟨_, _, _, hA.sub ?_, (le_7.trans hle2), hw, a, m, c_, rfl, rfl, hnl, hla⟩
        exact (.cons rfl (.cons rfl (.nil _)))
    · skip
      have hnu : (T.at 0).nul = true := by simpa using h11
      refine skN ?_
      refine fun a_ w_ hA hw => ⟨_, _, _, hA.sub ?_, (Fz.le.refl _), hw, none, 0, 0, rfl, rfl, (by rw [lT_nul hnu]; rfl), (ListAt.none hnu)⟩
      exact (.cons rfl (.cons rfl (.nil _)))
  · skip
    obtain ⟨a0, n0, c0, rfl, rfl, pj0, pj1⟩ := hI
    subst pj0
    have hf0 := pj1
    refine sr ?_
    refine mv rfl rfl ?_
    refine la (Says.own .head) Try.isAgg39 Try.sizeOf39 rfl (Nat.zero_add _).symm rfl rfl ?_
    refine cl rfl rfl rfl (m_at (i := 1) (hT.mono le_3)) rfl (fun v H1 L1 hle hR => ?_)
    obtain ⟨rfl, rfl, c43, rfl, g43⟩ := hR
    refine cl rfl rfl rfl (m_octetsOf g43) rfl (fun v H1 L1 le_18 hR => ?_)
    obtain ⟨rfl, a1, c1, rfl, hf1⟩ := hR
    refine nc rfl rfl ?_
    refine fa0 F71_2 rfl rfl ?_
    refine st Try.sizeOf22 rfl rfl rfl rfl (.tail .head) ?_
    refine nl ?_
    refine sq ?_
    refine sr ?_
    refine la (Says.own .head) Try.isAgg39 Try.sizeOf39 rfl (Nat.zero_add _).symm rfl rfl ?_
    refine cl rfl rfl rfl (m_at (i := 2) (hT.mono (le_3.trans le_18))) rfl (fun v H1 L1 hle hR => ?_)
    obtain ⟨rfl, rfl, c48, rfl, g48⟩ := hR
    refine fc C39_2 rfl rfl rfl ?_
    refine nt rfl rfl ?_
    refine nl ?_
    refine cutT (fun l' H' L' => ∃ (a2 : Option Addr), ∃ (n2 : Nat), ∃ (c2 : Nat), [(0, .pointer (some ⟨b, 0, none⟩)), (3, .pointer (some ⟨b_1, 0, none⟩))] = l' ∧ [(b_1, .cells (c.cells T).toArray 39 (0, 0))] :: [(b, .cells [.int .i16 ver, .slice a0 (lT (T.at 0)).length c0, .slice a1 (sT (T.at 1)).length c1, .slice a2 n2 c2, .int .i32 0, .pointer none].toArray 71 (0, 0))] :: L = L' ∧ n2 = (lT (T.at 2)).length ∧ ListAt H' (T.at 2) 2 At_ConsumerMemberMetadataOwnedPartition a2 c2) ?_ (fun l' H' L' le_20 hI => ?_)
    · skip
      refine cb rfl (fun h50 => ?_) (fun h50 => ?_)
      · skip
        have hnu : (T.at 2).nul = false := by simpa using h50
        have hlt : lT (T.at 2) = (T.at 2).l := lT_not hnu
        have hfl := (hf.at 2).len
        refine sr ?_
        refine mv rfl rfl ?_
        refine la (Says.own .head) Try.isAgg39 Try.sizeOf39 rfl (Nat.zero_add _).symm rfl rfl ?_
        refine cl rfl rfl rfl (m_at (i := 2) (hT.mono (le_3.trans le_18))) rfl (fun v H1 L1 hle hR => ?_)
        obtain ⟨rfl, rfl, c53, rfl, g53⟩ := hR
        refine fc C39_3 rfl rfl rfl ?_
        refine ls Try.runUnderlying36 rfl rfl ?_
        refine mks (m := 0) (c := (T.at 2).l.length) (zs := [.string ⟨#[]⟩, .slice none 0 0]) Try.underlying68 I116 rfl rfl rfl rfl rfl (by omega) (by omega) (by unfold maxLen; omega) rfl (fun bm56 N56 r56 => ?_)
        refine nc rfl rfl ?_
        refine fa0 F71_3 rfl rfl ?_
        refine st Try.sizeOf68 rfl rfl rfl rfl (.tail (.tail .head)) ?_
        refine nl ?_
        refine sr ?_
        refine la (Says.own (.tail .head)) Try.isAgg39 Try.sizeOf39 rfl (Nat.zero_add _).symm rfl rfl ?_
        refine cl rfl rfl rfl (m_at (i := 2) (hT.mono (le_3.trans le_18))) rfl (fun v H1 L1 hle hR => ?_)
        obtain ⟨rfl, rfl, c60, rfl, g60⟩ := hR
        refine fc C39_3 rfl rfl rfl ?_
        refine ls Try.runUnderlying36 rfl rfl ?_
        refine mv rfl rfl ?_
        refine nl ?_
        refine fr ((T.at 2).l.length) (fun k l' H' L' => ∃ (a : Option Addr), ∃ (m : Nat), ∃ (c_ : Nat), ∃ (es : List (KE 2)), ∃ (N : Chunk), [(0, .pointer (some ⟨b, 0, none⟩)), (3, .pointer (some ⟨b_1, 0, none⟩)), (61, .slice c60.la (T.at 2).l.length c60.lc), (62, .int .i64 ((T.at 2).l.length : Int))] = l' ∧ N :: [(b_1, .cells (c.cells T).toArray 39 (0, 0))] :: [(b, .cells [.int .i16 ver, .slice a0 (lT (T.at 0)).length c0, .slice a1 (sT (T.at 1)).length c1, .slice a m c_, .int .i32 0, .pointer none].toArray 71 (0, 0))] :: L = L' ∧ Row 116 2 a m c_ (es.flatMap fk) N ∧ m = es.length ∧ (∀ p : KE 2, p ∈ es → At_ConsumerMemberMetadataOwnedPartition H' p.2 (fk p)) ∧ es.map (·.2) = ((T.at 2).l.take k).map id ∧ a.isNone = false) [(0, .pointer (some ⟨b, 0, none⟩)), (3, .pointer (some ⟨b_1, 0, none⟩)), (61, .slice c60.la (T.at 2).l.length c60.lc), (62, .int .i64 ((T.at 2).l.length : Int))] (fun k l' H' L' h => ?_) (by omega) rfl (.cons rfl (.cons rfl (.cons rfl (.cons rfl (.nil _))))) ⟨some ⟨bm56, 0, none⟩, 0, _, [], N56, rfl, rfl, r56, rfl, (fun p hp => by cases hp), (by simp), rfl⟩ rfl rfl rfl rfl rfl (fun k l' H' L' hk le_23 hI => ?_) (fun l' H' L' le_24 hI => ?_)
        · obtain ⟨a, m, c_, es, N, rfl, _⟩ := h; exact ⟨rfl, rfl, rfl, rfl⟩
        · skip
          obtain ⟨a, m, c_, es, N, rfl, rfl, pk0, pk1, pk2, pk3, pk4⟩ := hI
          refine sr ?_
          obtain ⟨b_25, o_26, e_27, g_28⟩ := (g60.l.mono le_23).at_ (ne_nil_of_lt hk)
          obtain ⟨c_29, q_30, q_31⟩ := g_28 k hk
          refine ix2 Try.runUnderlying36 Try.sizeOf39 rfl e_27 rfl rfl hk rfl ?_
          refine la (Says.fz q_30) Try.isAgg39 Try.sizeOf39 rfl (Nat.add_zero _).symm rfl rfl ?_
          refine al Try.zeroValue39 rfl rfl (fun b_32 => ?_)
          refine sa Try.sizeOf39 rfl rfl rfl rfl rfl .head ?_
          refine nl ?_
          refine rgD 11 (.keep (.skip (.keep (.keep .nil)))) mixed ?_
          refine dT 0 rfl rfl rfl (by kernel_rfl) (fun _ _ _ h => h) (y_mv rfl) (.keep (.skip (.keep (.keep .nil)))) (Fz.le.refl _) ?_
          refine dT 1 rfl rfl rfl (by kernel_rfl) (fun _ _ _ h => h) (y_mv rfl) (.keep (.skip (.keep (.keep .nil)))) (Fz.le.refl _) ?_
          refine dT 2 rfl rfl rfl (by kernel_rfl) (fun _ _ _ h => h) (y_nc rfl) (.keep (.skip (.keep (.keep .nil)))) (Fz.le.refl _) ?_
          refine dT 3 rfl rfl rfl (by kernel_rfl) (fun _ _ _ h => h) (y_fa0 F71_3 rfl) (.keep (.skip (.keep (.keep .nil)))) (Fz.le.refl _) ?_
          refine dT 4 rfl rfl rfl (by kernel_rfl) (fun _ _ _ h => h) (y_ld (Says.own (.tail (.tail .head))) Try.isAgg68 rfl (Nat.zero_add _).symm rfl) (.keep (.skip (.keep (.keep .nil)))) (Fz.le.refl _) ?_
          refine dT 5 rfl rfl rfl (by kernel_rfl) (fun _ _ _ h => h) (y_la (Says.own .head) Try.isAgg39 Try.sizeOf39 rfl (Nat.zero_add _).symm rfl) (.keep (.skip (.keep (.keep .nil)))) (Fz.le.refl _) ?_
          refine dE 6 (by kernel_rfl) rfl ?_
          refine cl rfl rfl rfl (make_ConsumerMemberMetadataOwnedPartition q_31 ((hf.at 2).el (List.getElem_mem hk))) rfl (fun v H1 L1 le_33 hR => ?_)
          obtain ⟨rfl, cs73, rfl, g73⟩ := hR
          have ho73 := At_ConsumerMemberMetadataOwnedPartition.ok g73
          have gg73 := g73
          obtain ⟨a1e, c1e, rfl, he0⟩ := g73
          refine dN (.keep (.skip (.keep (.keep .nil)))) le_33 ?_
          refine dE 7 (by kernel_rfl) rfl ?_
          refine bs' L68 rfl rfl rfl rfl (fun b_34 => ?_)
          refine dN (.skip (.keep (.skip (.keep (.keep .nil))))) le_33 ?_
          refine dE 8 (by kernel_rfl) rfl ?_
          have hmk : m = k := by have h1 := congrArg List.length pk3; rw [List.length_map, List.length_map, List.length_take] at h1; omega
          refine ap (news := fk ((⟨_, ho73⟩, (T.at 2).l[k]) : KE 2)) Try.underlying68 I116 rfl rfl pk0 (fun _ => (.tail (.tail .head))) (src_says Try.underlying68 rfl (fun _ => Says.own .head) (fk_one _)) (by omega) (by unfold maxLen; omega) rfl (fun a75 c75 N75 r75 z75 => ?_)
          rw [flatMap_snoc'] at r75
          have hin : a75.isNone = false := by cases a75 with | none => have := z75.1 rfl; omega | some _ => rfl
          refine dN (.skip (.keep (.skip (.keep (.keep .nil))))) le_33 ?_
          refine dE 9 (by kernel_rfl) rfl ?_
          refine nc rfl rfl ?_
          refine dN (.skip (.keep (.skip (.keep (.keep .nil))))) le_33 ?_
          refine dT 10 rfl rfl rfl (by kernel_rfl) (fun _ _ _ h => h) (y_fa0 F71_3 rfl) (.skip (.keep (.skip (.keep (.keep .nil))))) le_33 ?_
          refine dE 11 (by kernel_rfl) rfl ?_
          refine st Try.sizeOf68 rfl rfl rfl rfl (.tail (.tail (.tail (.tail .head)))) ?_
          refine dNk (by kernel_rfl) ?_
          refine dD (by kernel_rfl) ?_
          refine Nb ?_
          refine drN .head ?_
          refine drN .head ?_
          refine fun a_ w_ hA hw => ⟨_, _, _, hA.sub ?_, (le_23.trans le_33), hw, _, rfl, a75, _, c75, (es ++ [((⟨_, ho73⟩, (T.at 2).l[k]) : KE 2)]), N75, rfl, rfl, r75, (by simp; omega), (fun p hp => (mem_snoc hp).elim (fun h => At_ConsumerMemberMetadataOwnedPartition.mono _ _ _ _ le_33 (pk2 p h)) (fun h => h ▸ At_ConsumerMemberMetadataOwnedPartition.mono _ _ _ _ (Fz.le.refl _) gg73)), (map_take_snoc hk pk3), hin⟩
          exact (.cons rfl (.cons rfl (.cons rfl (.cons rfl (.cons rfl (.nil _))))))
        · skip
          obtain ⟨a, m, c_, es, N, rfl, rfl, pk0, pk1, pk2, pk3, pk4⟩ := hI
          refine toNn ?_
          have hm : m = (T.at 2).l.length := by have h1 := congrArg List.length pk3; rw [List.length_map, List.length_map, List.take_length] at h1; omega
          have hfe : es.map (·.2) = (T.at 2).l := by rw [pk3, List.take_length, List.map_id]
          refine frN pk0 .head (fun H2 hle2 hfz => ?_)
          have hrw := RowsAt.row (R := At_ConsumerMemberMetadataOwnedPartition) hfz pk1 pk0.le.1 (fun p hp => At_ConsumerMemberMetadataOwnedPartition.mono _ _ _ _ hle2 (pk2 p hp))
          rw [hfe, ← hlt] at hrw
          have hnl : m = (lT (T.at 2)).length := by rw [hlt]; exact hm
          have hla : ListAt H2 (T.at 2) 2 At_ConsumerMemberMetadataOwnedPartition a c_ := ⟨hrw, by rw [pk4, hnu]⟩
          refine fun a_ w_ hA hw => ⟨_, _, _, hA.sub ?_, (le_24.trans hle2), hw, a, m, c_, rfl, rfl, hnl, hla⟩
          exact (.cons rfl (.cons rfl (.nil _)))
      · skip
        have hnu : (T.at 2).nul = true := by simpa using h50
        refine skN ?_
        refine fun a_ w_ hA hw => ⟨_, _, _, hA.sub ?_, (Fz.le.refl _), hw, none, 0, 0, rfl, rfl, (by rw [lT_nul hnu]; rfl), (ListAt.none hnu)⟩
        exact (.cons rfl (.cons rfl (.nil _)))
    · skip
      obtain ⟨a2, n2, c2, rfl, rfl, pj0, pj1⟩ := hI
      subst pj0
      have hf2 := pj1
      refine sr ?_
      refine mv rfl rfl ?_
      refine la (Says.own .head) Try.isAgg39 Try.sizeOf39 rfl (Nat.zero_add _).symm rfl rfl ?_
      refine cl rfl rfl rfl (m_at (i := 3) (hT.mono (le_3.trans (le_18.trans le_20)))) rfl (fun v H1 L1 hle hR => ?_)
      obtain ⟨rfl, rfl, c81, rfl, g81⟩ := hR
      refine fc C39_0 rfl rfl rfl ?_
      refine cv Try.runUnderlying2 Try.runUnderlying21 rfl rfl rfl ?_
      refine nc rfl rfl ?_
      refine fa0 F71_4 rfl rfl ?_
      refine st Try.sizeOf21 rfl rfl rfl rfl (.tail .head) ?_
      refine nl ?_
      refine rg ?_
      refine mv rfl rfl ?_
      refine la (Says.own .head) Try.isAgg39 Try.sizeOf39 rfl (Nat.zero_add _).symm rfl rfl ?_
      refine cl rfl rfl rfl (m_at (i := 4) (hT.mono (le_3.trans (le_18.trans le_20)))) rfl (fun v H1 L1 hle hR => ?_)
      obtain ⟨rfl, rfl, c88, rfl, g88⟩ := hR
      refine cl rfl rfl rfl (m_textOf g88) rfl (fun v H1 L1 le_37 hR => ?_)
      obtain ⟨rfl, p4, rfl, hf4⟩ := hR
      refine nc rfl rfl ?_
      refine fa0 F71_5 rfl rfl ?_
      refine st Try.sizeOf69 rfl rfl rfl rfl (.tail .head) ?_
      refine nN ?_
      refine drN .head ?_
      exact fun _ _ hA hw => rn rfl (le_3.trans (le_18.trans (le_20.trans le_37))) ⟨_, rfl, ⟨a0, c0, a1, c1, a2, c2, p4, rfl, (hf0.mono RText.mono (le_18.trans (le_20.trans le_37))), (hf1.mono (le_20.trans le_37)), (hf2.mono At_ConsumerMemberMetadataOwnedPartition.mono le_37), hf4⟩⟩ hA hw
end Go.Sx

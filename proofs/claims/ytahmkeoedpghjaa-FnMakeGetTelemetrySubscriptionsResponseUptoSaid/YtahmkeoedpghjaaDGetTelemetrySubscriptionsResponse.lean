import Derived.Test.YtahmkeoedpghjaaBGetTelemetrySubscriptionsResponse
import Derived.Test.YtahmkeoedpghjaaD0
import Derived.KernelRfl
set_option linter.unusedVariables false
set_option linter.unusedSimpArgs false
set_option maxRecDepth 100000
set_option maxHeartbeats 20000000
namespace Go.Sx
open Go.Proofs
theorem fill_GetTelemetrySubscriptionsResponse {H : Fz} {L : Own} {b : Nat} {ver : Int} {c : TC} {T : Tr} (hT : TreeAt H c T) (hf : Fine T) :
    Fn Try.prog 93 [.pointer (some ⟨b, 0, none⟩), .agg (c.cells T).toArray] H ([(b, .cells [.int .i16 ver, .int .i32 0, .int .i16 0, .int .u8 0, .int .u8 0, .int .u8 0, .int .u8 0, .int .u8 0, .int .u8 0, .int .u8 0, .int .u8 0, .int .u8 0, .int .u8 0, .int .u8 0, .int .u8 0, .int .u8 0, .int .u8 0, .int .u8 0, .int .u8 0, .int .i32 0, .slice none 0 0, .int .i32 0, .int .i32 0, .bool false, .slice none 0 0, .map none].toArray 101 (0, 0))] :: L) (fun _ H' L' => ∃ cs : List Value, L' = [(b, .cells cs.toArray 101 (0, 0))] :: L ∧ At_GetTelemetrySubscriptionsResponse ver H' T cs) := by
  refine Fn.mk Try.call93 Try.func93 rfl Try.ntmps93 rfl ?_
  refine sr ?_
  refine bx rfl rfl rfl (fun b_1 => ?_)
  refine nl ?_
  refine sr ?_
  refine mv rfl rfl ?_
  refine la (Says.own .head) Try.isAgg39 Try.sizeOf39 rfl (Nat.zero_add _).symm rfl rfl ?_
  refine cl rfl rfl rfl (m_at (i := 0) hT) rfl (fun v H1 L1 hle hR => ?_)
  obtain ⟨rfl, rfl, c12, rfl, g12⟩ := hR
  refine fc C39_0 rfl rfl rfl ?_
  refine cv Try.runUnderlying2 Try.runUnderlying21 rfl rfl rfl ?_
  refine nc rfl rfl ?_
  refine fa0 F101_1 rfl rfl ?_
  refine st Try.sizeOf21 rfl rfl rfl rfl (.tail .head) ?_
  refine nl ?_
  refine sr ?_
  refine mv rfl rfl ?_
  refine la (Says.own .head) Try.isAgg39 Try.sizeOf39 rfl (Nat.zero_add _).symm rfl rfl ?_
  refine cl rfl rfl rfl (m_at (i := 1) hT) rfl (fun v H1 L1 hle hR => ?_)
  obtain ⟨rfl, rfl, c19, rfl, g19⟩ := hR
  refine fc C39_0 rfl rfl rfl ?_
  refine cv Try.runUnderlying2 Try.runUnderlying45 rfl rfl rfl ?_
  refine nc rfl rfl ?_
  refine fa0 F101_2 rfl rfl ?_
  refine st Try.sizeOf45 rfl rfl rfl rfl (.tail .head) ?_
  refine nl ?_
  refine sr ?_
  refine mv rfl rfl ?_
  refine la (Says.own .head) Try.isAgg39 Try.sizeOf39 rfl (Nat.zero_add _).symm rfl rfl ?_
  refine cl rfl rfl rfl (m_at (i := 2) hT) rfl (fun v H1 L1 hle hR => ?_)
  obtain ⟨rfl, rfl, c26, rfl, g26⟩ := hR
  refine fc C39_1 rfl rfl rfl ?_
  refine cl rfl rfl rfl (m_sixteen g26.s) rfl (fun v H1 L1 hle hR => ?_)
  obtain ⟨rfl, rfl, rfl⟩ := hR
  refine nc rfl rfl ?_
  refine fa0 F101_3 rfl rfl ?_
  refine sa Try.sizeOf98 rfl rfl rfl rfl rfl (.tail .head) ?_
  refine nl ?_
  refine sr ?_
  refine mv rfl rfl ?_
  refine la (Says.own .head) Try.isAgg39 Try.sizeOf39 rfl (Nat.zero_add _).symm rfl rfl ?_
  refine cl rfl rfl rfl (m_at (i := 3) hT) rfl (fun v H1 L1 hle hR => ?_)
  obtain ⟨rfl, rfl, c33, rfl, g33⟩ := hR
  refine fc C39_0 rfl rfl rfl ?_
  refine cv Try.runUnderlying2 Try.runUnderlying21 rfl rfl rfl ?_
  refine nc rfl rfl ?_
  refine fa0 F101_4 rfl rfl ?_
  refine st Try.sizeOf21 rfl rfl rfl rfl (.tail .head) ?_
  refine nl ?_
  refine sq ?_
  refine sr ?_
  refine la (Says.own .head) Try.isAgg39 Try.sizeOf39 rfl (Nat.zero_add _).symm rfl rfl ?_
  refine cl rfl rfl rfl (m_at (i := 4) hT) rfl (fun v H1 L1 hle hR => ?_)
  obtain ⟨rfl, rfl, c39, rfl, g39⟩ := hR
  refine fc C39_2 rfl rfl rfl ?_
  refine nt rfl rfl ?_
  refine nl ?_
  refine cutT (fun l' H' L' => ∃ (a4 : Option Addr), ∃ (n4 : Nat), ∃ (c4 : Nat), [(0, .pointer (some ⟨b, 0, none⟩)), (3, .pointer (some ⟨b_1, 0, none⟩))] = l' ∧ [(b_1, .cells (c.cells T).toArray 39 (0, 0))] :: [(b, .cells [.int .i16 ver, .int .i32 (IntKind.i32.wrap (T.at 0).n), .int .i16 (IntKind.i16.wrap (T.at 1).n), ub (T.at 2).s 0, ub (T.at 2).s 1, ub (T.at 2).s 2, ub (T.at 2).s 3, ub (T.at 2).s 4, ub (T.at 2).s 5, ub (T.at 2).s 6, ub (T.at 2).s 7, ub (T.at 2).s 8, ub (T.at 2).s 9, ub (T.at 2).s 10, ub (T.at 2).s 11, ub (T.at 2).s 12, ub (T.at 2).s 13, ub (T.at 2).s 14, ub (T.at 2).s 15, .int .i32 (IntKind.i32.wrap (T.at 3).n), .slice a4 n4 c4, .int .i32 0, .int .i32 0, .bool false, .slice none 0 0, .map none].toArray 101 (0, 0))] :: L = L' ∧ n4 = (lT (T.at 4)).length ∧ ListAt H' (T.at 4) 1 RI8 a4 c4) ?_ (fun l' H' L' le_8 hI => ?_)
  · skip
    refine cb rfl (fun h41 => ?_) (fun h41 => ?_)
    · skip
      have hnu : (T.at 4).nul = false := by simpa using h41
      have hlt : lT (T.at 4) = (T.at 4).l := lT_not hnu
      have hfl := (hf.at 4).len
      refine sr ?_
      refine mv rfl rfl ?_
      refine la (Says.own .head) Try.isAgg39 Try.sizeOf39 rfl (Nat.zero_add _).symm rfl rfl ?_
      refine cl rfl rfl rfl (m_at (i := 4) hT) rfl (fun v H1 L1 hle hR => ?_)
      obtain ⟨rfl, rfl, c44, rfl, g44⟩ := hR
      refine fc C39_3 rfl rfl rfl ?_
      refine ls Try.runUnderlying36 rfl rfl ?_
      refine mks (m := 0) (c := (T.at 4).l.length) (zs := [.int .i8 0]) Try.underlying99 I80 rfl rfl rfl rfl rfl (by omega) (by omega) (by unfold maxLen; omega) rfl (fun bm47 N47 r47 => ?_)
      refine nc rfl rfl ?_
      refine fa0 F101_5 rfl rfl ?_
      refine st Try.sizeOf99 rfl rfl rfl rfl (.tail (.tail .head)) ?_
      refine nl ?_
      refine sr ?_
      refine la (Says.own (.tail .head)) Try.isAgg39 Try.sizeOf39 rfl (Nat.zero_add _).symm rfl rfl ?_
      refine cl rfl rfl rfl (m_at (i := 4) hT) rfl (fun v H1 L1 hle hR => ?_)
      obtain ⟨rfl, rfl, c51, rfl, g51⟩ := hR
      refine fc C39_3 rfl rfl rfl ?_
      refine ls Try.runUnderlying36 rfl rfl ?_
      refine mv rfl rfl ?_
      refine nl ?_
      refine fr ((T.at 4).l.length) (fun k l' H' L' => ∃ (a : Option Addr), ∃ (m : Nat), ∃ (c_ : Nat), ∃ (es : List (KE 1)), ∃ (N : Chunk), [(0, .pointer (some ⟨b, 0, none⟩)), (3, .pointer (some ⟨b_1, 0, none⟩)), (52, .slice c51.la (T.at 4).l.length c51.lc), (53, .int .i64 ((T.at 4).l.length : Int))] = l' ∧ N :: [(b_1, .cells (c.cells T).toArray 39 (0, 0))] :: [(b, .cells [.int .i16 ver, .int .i32 (IntKind.i32.wrap (T.at 0).n), .int .i16 (IntKind.i16.wrap (T.at 1).n), ub (T.at 2).s 0, ub (T.at 2).s 1, ub (T.at 2).s 2, ub (T.at 2).s 3, ub (T.at 2).s 4, ub (T.at 2).s 5, ub (T.at 2).s 6, ub (T.at 2).s 7, ub (T.at 2).s 8, ub (T.at 2).s 9, ub (T.at 2).s 10, ub (T.at 2).s 11, ub (T.at 2).s 12, ub (T.at 2).s 13, ub (T.at 2).s 14, ub (T.at 2).s 15, .int .i32 (IntKind.i32.wrap (T.at 3).n), .slice a m c_, .int .i32 0, .int .i32 0, .bool false, .slice none 0 0, .map none].toArray 101 (0, 0))] :: L = L' ∧ Row 80 1 a m c_ (es.flatMap fk) N ∧ m = es.length ∧ (∀ p : KE 1, p ∈ es → RI8 H' p.2 (fk p)) ∧ es.map (·.2) = ((T.at 4).l.take k).map id ∧ a.isNone = false) [(0, .pointer (some ⟨b, 0, none⟩)), (3, .pointer (some ⟨b_1, 0, none⟩)), (52, .slice c51.la (T.at 4).l.length c51.lc), (53, .int .i64 ((T.at 4).l.length : Int))] (fun k l' H' L' h => ?_) (by omega) rfl (.cons rfl (.cons rfl (.cons rfl (.cons rfl (.nil _))))) ⟨some ⟨bm47, 0, none⟩, 0, _, [], N47, rfl, rfl, r47, rfl, (fun p hp => by cases hp), (by simp), rfl⟩ rfl rfl rfl rfl rfl (fun k l' H' L' hk le_11 hI => ?_) (fun l' H' L' le_12 hI => ?_)
      · obtain ⟨a, m, c_, es, N, rfl, _⟩ := h; exact ⟨rfl, rfl, rfl, rfl⟩
      · skip
        obtain ⟨a, m, c_, es, N, rfl, rfl, pk0, pk1, pk2, pk3, pk4⟩ := hI
        refine sr ?_
        obtain ⟨b_13, o_14, e_15, g_16⟩ := (g51.l.mono le_11).at_ (ne_nil_of_lt hk)
        obtain ⟨c_17, q_18, q_19⟩ := g_16 k hk
        refine ix2 Try.runUnderlying36 Try.sizeOf39 rfl e_15 rfl rfl hk rfl ?_
        refine la (Says.fz q_18) Try.isAgg39 Try.sizeOf39 rfl (Nat.add_zero _).symm rfl rfl ?_
        refine al Try.zeroValue39 rfl rfl (fun b_20 => ?_)
        refine sa Try.sizeOf39 rfl rfl rfl rfl rfl .head ?_
        refine nl ?_
        refine rgD 12 (.keep (.skip (.keep (.keep .nil)))) mixed ?_
        refine dT 0 rfl rfl rfl (by kernel_rfl) (fun _ _ _ h => h) (y_mv rfl) (.keep (.skip (.keep (.keep .nil)))) (Fz.le.refl _) ?_
        refine dT 1 rfl rfl rfl (by kernel_rfl) (fun _ _ _ h => h) (y_mv rfl) (.keep (.skip (.keep (.keep .nil)))) (Fz.le.refl _) ?_
        refine dT 2 rfl rfl rfl (by kernel_rfl) (fun _ _ _ h => h) (y_nc rfl) (.keep (.skip (.keep (.keep .nil)))) (Fz.le.refl _) ?_
        refine dT 3 rfl rfl rfl (by kernel_rfl) (fun _ _ _ h => h) (y_fa0 F101_5 rfl) (.keep (.skip (.keep (.keep .nil)))) (Fz.le.refl _) ?_
        refine dT 4 rfl rfl rfl (by kernel_rfl) (fun _ _ _ h => h) (y_ld (Says.own (.tail (.tail .head))) Try.isAgg99 rfl (Nat.zero_add _).symm rfl) (.keep (.skip (.keep (.keep .nil)))) (Fz.le.refl _) ?_
        refine dT 5 rfl rfl rfl (by kernel_rfl) (fun _ _ _ h => h) (y_fa0 F39_0 rfl) (.keep (.skip (.keep (.keep .nil)))) (Fz.le.refl _) ?_
        refine dT 6 rfl rfl rfl (by kernel_rfl) (fun _ _ _ h => h) (y_ld (Says.own .head) Try.isAgg2 rfl (Nat.zero_add _).symm rfl) (.keep (.skip (.keep (.keep .nil)))) (Fz.le.refl _) ?_
        refine dE 7 (by kernel_rfl) rfl ?_
        refine cv Try.runUnderlying2 Try.runUnderlying80 rfl rfl rfl ?_
        refine dN (.keep (.skip (.keep (.keep .nil)))) (Fz.le.refl _) ?_
        refine dE 8 (by kernel_rfl) rfl ?_
        refine bs' L99 rfl rfl rfl rfl (fun b_21 => ?_)
        refine dN (.skip (.keep (.skip (.keep (.keep .nil))))) (Fz.le.refl _) ?_
        refine dE 9 (by kernel_rfl) rfl ?_
        have hmk : m = k := by have h1 := congrArg List.length pk3; rw [List.length_map, List.length_map, List.length_take] at h1; omega
        refine ap (news := fk ((⟨[.int .i8 (IntKind.i8.wrap ((T.at 4).l[k]).n)], rfl, by simp [Value.oneCell', u16, ub]⟩, (T.at 4).l[k]) : KE 1)) Try.underlying99 I80 rfl rfl pk0 (fun _ => (.tail (.tail .head))) (src_says Try.underlying99 rfl (fun _ => Says.own .head) (fk_one _)) (by omega) (by unfold maxLen; omega) rfl (fun a67 c67 N67 r67 z67 => ?_)
        rw [flatMap_snoc'] at r67
        have hin : a67.isNone = false := by cases a67 with | none => have := z67.1 rfl; omega | some _ => rfl
        refine dN (.skip (.keep (.skip (.keep (.keep .nil))))) (Fz.le.refl _) ?_
        refine dE 10 (by kernel_rfl) rfl ?_
        refine nc rfl rfl ?_
        refine dN (.skip (.keep (.skip (.keep (.keep .nil))))) (Fz.le.refl _) ?_
        refine dT 11 rfl rfl rfl (by kernel_rfl) (fun _ _ _ h => h) (y_fa0 F101_5 rfl) (.skip (.keep (.skip (.keep (.keep .nil))))) (Fz.le.refl _) ?_
        refine dE 12 (by kernel_rfl) rfl ?_
        refine st Try.sizeOf99 rfl rfl rfl rfl (.tail (.tail (.tail (.tail .head)))) ?_
        refine dNk (by kernel_rfl) ?_
        refine dD (by kernel_rfl) ?_
        refine Nb ?_
        refine drN .head ?_
        refine drN .head ?_
        refine fun a_ w_ hA hw => ⟨_, _, _, hA.sub ?_, le_11, hw, _, rfl, a67, _, c67, (es ++ [((⟨[.int .i8 (IntKind.i8.wrap ((T.at 4).l[k]).n)], rfl, by simp [Value.oneCell', u16, ub]⟩, (T.at 4).l[k]) : KE 1)]), N67, rfl, rfl, r67, (by simp; omega), (fun p hp => (mem_snoc hp).elim (fun h => RI8.mono _ _ _ _ (Fz.le.refl _) (pk2 p h)) (fun h => h ▸ RI8.mono _ _ _ _ (Fz.le.refl _) (rfl : RI8 _ _ _))), (map_take_snoc hk pk3), hin⟩
        exact (.cons rfl (.cons rfl (.cons rfl (.cons rfl (.cons rfl (.nil _))))))
      · skip
        obtain ⟨a, m, c_, es, N, rfl, rfl, pk0, pk1, pk2, pk3, pk4⟩ := hI
        refine toNn ?_
        have hm : m = (T.at 4).l.length := by have h1 := congrArg List.length pk3; rw [List.length_map, List.length_map, List.take_length] at h1; omega
        have hfe : es.map (·.2) = (T.at 4).l := by rw [pk3, List.take_length, List.map_id]
        refine frN pk0 .head (fun H2 hle2 hfz => ?_)
        have hrw := RowsAt.row (R := RI8) hfz pk1 pk0.le.1 (fun p hp => RI8.mono _ _ _ _ hle2 (pk2 p hp))
        rw [hfe, ← hlt] at hrw
        have hnl : m = (lT (T.at 4)).length := by rw [hlt]; exact hm
        have hla : ListAt H2 (T.at 4) 1 RI8 a c_ := ⟨hrw, by rw [pk4, hnu]⟩
        refine fun a_ w_ hA hw => ⟨_, _, _, hA.sub ?_, (le_12.trans hle2), hw, a, m, c_, rfl, rfl, hnl, hla⟩
        exact (.cons rfl (.cons rfl (.nil _)))
    · skip
      have hnu : (T.at 4).nul = true := by simpa using h41
      refine skN ?_
      refine fun a_ w_ hA hw => ⟨_, _, _, hA.sub ?_, (Fz.le.refl _), hw, none, 0, 0, rfl, rfl, (by rw [lT_nul hnu]; rfl), (ListAt.none hnu)⟩
      exact (.cons rfl (.cons rfl (.nil _)))
  · skip
    obtain ⟨a4, n4, c4, rfl, rfl, pj0, pj1⟩ := hI
    subst pj0
    have hf4 := pj1
    refine sr ?_
    refine mv rfl rfl ?_
    refine la (Says.own .head) Try.isAgg39 Try.sizeOf39 rfl (Nat.zero_add _).symm rfl rfl ?_
    refine cl rfl rfl rfl (m_at (i := 5) (hT.mono le_8)) rfl (fun v H1 L1 hle hR => ?_)
    obtain ⟨rfl, rfl, c73, rfl, g73⟩ := hR
    refine fc C39_0 rfl rfl rfl ?_
    refine cv Try.runUnderlying2 Try.runUnderlying21 rfl rfl rfl ?_
    refine nc rfl rfl ?_
    refine fa0 F101_6 rfl rfl ?_
    refine st Try.sizeOf21 rfl rfl rfl rfl (.tail .head) ?_
    refine nl ?_
    refine sr ?_
    refine mv rfl rfl ?_
    refine la (Says.own .head) Try.isAgg39 Try.sizeOf39 rfl (Nat.zero_add _).symm rfl rfl ?_
    refine cl rfl rfl rfl (m_at (i := 6) (hT.mono le_8)) rfl (fun v H1 L1 hle hR => ?_)
    obtain ⟨rfl, rfl, c80, rfl, g80⟩ := hR
    refine fc C39_0 rfl rfl rfl ?_
    refine cv Try.runUnderlying2 Try.runUnderlying21 rfl rfl rfl ?_
    refine nc rfl rfl ?_
    refine fa0 F101_7 rfl rfl ?_
    refine st Try.sizeOf21 rfl rfl rfl rfl (.tail .head) ?_
    refine nl ?_
    refine sr ?_
    refine mv rfl rfl ?_
    refine la (Says.own .head) Try.isAgg39 Try.sizeOf39 rfl (Nat.zero_add _).symm rfl rfl ?_
    refine cl rfl rfl rfl (m_at (i := 7) (hT.mono le_8)) rfl (fun v H1 L1 hle hR => ?_)
    obtain ⟨rfl, rfl, c87, rfl, g87⟩ := hR
    refine fc C39_0 rfl rfl rfl ?_
    refine an rfl rfl (and1_i64 _) rfl ?_
    refine eq' rfl rfl rfl ?_
    refine nc rfl rfl ?_
    refine fa0 F101_8 rfl rfl ?_
    refine st Try.sizeOf4 rfl rfl rfl rfl (.tail .head) ?_
    refine nl ?_
    refine sq ?_
    refine sr ?_
    refine la (Says.own .head) Try.isAgg39 Try.sizeOf39 rfl (Nat.zero_add _).symm rfl rfl ?_
    refine cl rfl rfl rfl (m_at (i := 8) (hT.mono le_8)) rfl (fun v H1 L1 hle hR => ?_)
    obtain ⟨rfl, rfl, c94, rfl, g94⟩ := hR
    refine fc C39_2 rfl rfl rfl ?_
    refine nt rfl rfl ?_
    refine nl ?_
    refine cutT (fun l' H' L' => ∃ (a8 : Option Addr), ∃ (n8 : Nat), ∃ (c8 : Nat), [(0, .pointer (some ⟨b, 0, none⟩)), (3, .pointer (some ⟨b_1, 0, none⟩))] = l' ∧ [(b_1, .cells (c.cells T).toArray 39 (0, 0))] :: [(b, .cells [.int .i16 ver, .int .i32 (IntKind.i32.wrap (T.at 0).n), .int .i16 (IntKind.i16.wrap (T.at 1).n), ub (T.at 2).s 0, ub (T.at 2).s 1, ub (T.at 2).s 2, ub (T.at 2).s 3, ub (T.at 2).s 4, ub (T.at 2).s 5, ub (T.at 2).s 6, ub (T.at 2).s 7, ub (T.at 2).s 8, ub (T.at 2).s 9, ub (T.at 2).s 10, ub (T.at 2).s 11, ub (T.at 2).s 12, ub (T.at 2).s 13, ub (T.at 2).s 14, ub (T.at 2).s 15, .int .i32 (IntKind.i32.wrap (T.at 3).n), .slice a4 (lT (T.at 4)).length c4, .int .i32 (IntKind.i32.wrap (T.at 5).n), .int .i32 (IntKind.i32.wrap (T.at 6).n), .bool (decide ((T.at 7).n % 2 = 1)), .slice a8 n8 c8, .map none].toArray 101 (0, 0))] :: L = L' ∧ n8 = (lT (T.at 8)).length ∧ ListAt H' (T.at 8) 1 RText a8 c8) ?_ (fun l' H' L' le_26 hI => ?_)
    · skip
      refine cb rfl (fun h96 => ?_) (fun h96 => ?_)
      · skip
        have hnu : (T.at 8).nul = false := by simpa using h96
        have hlt : lT (T.at 8) = (T.at 8).l := lT_not hnu
        have hfl := (hf.at 8).len
        refine sr ?_
        refine mv rfl rfl ?_
        refine la (Says.own .head) Try.isAgg39 Try.sizeOf39 rfl (Nat.zero_add _).symm rfl rfl ?_
        refine cl rfl rfl rfl (m_at (i := 8) (hT.mono le_8)) rfl (fun v H1 L1 hle hR => ?_)
        obtain ⟨rfl, rfl, c99, rfl, g99⟩ := hR
        refine fc C39_3 rfl rfl rfl ?_
        refine ls Try.runUnderlying36 rfl rfl ?_
        refine mks (m := 0) (c := (T.at 8).l.length) (zs := [.string ⟨#[]⟩]) Try.underlying74 I9 rfl rfl rfl rfl rfl (by omega) (by omega) (by unfold maxLen; omega) rfl (fun bm102 N102 r102 => ?_)
        refine nc rfl rfl ?_
        refine fa0 F101_9 rfl rfl ?_
        refine st Try.sizeOf74 rfl rfl rfl rfl (.tail (.tail .head)) ?_
        refine nl ?_
        refine sr ?_
        refine la (Says.own (.tail .head)) Try.isAgg39 Try.sizeOf39 rfl (Nat.zero_add _).symm rfl rfl ?_
        refine cl rfl rfl rfl (m_at (i := 8) (hT.mono le_8)) rfl (fun v H1 L1 hle hR => ?_)
        obtain ⟨rfl, rfl, c106, rfl, g106⟩ := hR
        refine fc C39_3 rfl rfl rfl ?_
        refine ls Try.runUnderlying36 rfl rfl ?_
        refine mv rfl rfl ?_
        refine nl ?_
        refine fr ((T.at 8).l.length) (fun k l' H' L' => ∃ (a : Option Addr), ∃ (m : Nat), ∃ (c_ : Nat), ∃ (es : List (KE 1)), ∃ (N : Chunk), [(0, .pointer (some ⟨b, 0, none⟩)), (3, .pointer (some ⟨b_1, 0, none⟩)), (107, .slice c106.la (T.at 8).l.length c106.lc), (108, .int .i64 ((T.at 8).l.length : Int))] = l' ∧ N :: [(b_1, .cells (c.cells T).toArray 39 (0, 0))] :: [(b, .cells [.int .i16 ver, .int .i32 (IntKind.i32.wrap (T.at 0).n), .int .i16 (IntKind.i16.wrap (T.at 1).n), ub (T.at 2).s 0, ub (T.at 2).s 1, ub (T.at 2).s 2, ub (T.at 2).s 3, ub (T.at 2).s 4, ub (T.at 2).s 5, ub (T.at 2).s 6, ub (T.at 2).s 7, ub (T.at 2).s 8, ub (T.at 2).s 9, ub (T.at 2).s 10, ub (T.at 2).s 11, ub (T.at 2).s 12, ub (T.at 2).s 13, ub (T.at 2).s 14, ub (T.at 2).s 15, .int .i32 (IntKind.i32.wrap (T.at 3).n), .slice a4 (lT (T.at 4)).length c4, .int .i32 (IntKind.i32.wrap (T.at 5).n), .int .i32 (IntKind.i32.wrap (T.at 6).n), .bool (decide ((T.at 7).n % 2 = 1)), .slice a m c_, .map none].toArray 101 (0, 0))] :: L = L' ∧ Row 9 1 a m c_ (es.flatMap fk) N ∧ m = es.length ∧ (∀ p : KE 1, p ∈ es → RText H' p.2 (fk p)) ∧ es.map (·.2) = ((T.at 8).l.take k).map id ∧ a.isNone = false) [(0, .pointer (some ⟨b, 0, none⟩)), (3, .pointer (some ⟨b_1, 0, none⟩)), (107, .slice c106.la (T.at 8).l.length c106.lc), (108, .int .i64 ((T.at 8).l.length : Int))] (fun k l' H' L' h => ?_) (by omega) rfl (.cons rfl (.cons rfl (.cons rfl (.cons rfl (.nil _))))) ⟨some ⟨bm102, 0, none⟩, 0, _, [], N102, rfl, rfl, r102, rfl, (fun p hp => by cases hp), (by simp), rfl⟩ rfl rfl rfl rfl rfl (fun k l' H' L' hk le_29 hI => ?_) (fun l' H' L' le_30 hI => ?_)
        · obtain ⟨a, m, c_, es, N, rfl, _⟩ := h; exact ⟨rfl, rfl, rfl, rfl⟩
        · skip
          obtain ⟨a, m, c_, es, N, rfl, rfl, pk0, pk1, pk2, pk3, pk4⟩ := hI
          refine sr ?_
          obtain ⟨b_31, o_32, e_33, g_34⟩ := (g106.l.mono le_29).at_ (ne_nil_of_lt hk)
          obtain ⟨c_35, q_36, q_37⟩ := g_34 k hk
          refine ix2 Try.runUnderlying36 Try.sizeOf39 rfl e_33 rfl rfl hk rfl ?_
          refine la (Says.fz q_36) Try.isAgg39 Try.sizeOf39 rfl (Nat.add_zero _).symm rfl rfl ?_
          refine al Try.zeroValue39 rfl rfl (fun b_38 => ?_)
          refine sa Try.sizeOf39 rfl rfl rfl rfl rfl .head ?_
          refine nl ?_
          refine rgD 12 (.keep (.skip (.keep (.keep .nil)))) mixed ?_
          refine dT 0 rfl rfl rfl (by kernel_rfl) (fun _ _ _ h => h) (y_mv rfl) (.keep (.skip (.keep (.keep .nil)))) (Fz.le.refl _) ?_
          refine dT 1 rfl rfl rfl (by kernel_rfl) (fun _ _ _ h => h) (y_mv rfl) (.keep (.skip (.keep (.keep .nil)))) (Fz.le.refl _) ?_
          refine dT 2 rfl rfl rfl (by kernel_rfl) (fun _ _ _ h => h) (y_nc rfl) (.keep (.skip (.keep (.keep .nil)))) (Fz.le.refl _) ?_
          refine dT 3 rfl rfl rfl (by kernel_rfl) (fun _ _ _ h => h) (y_fa0 F101_9 rfl) (.keep (.skip (.keep (.keep .nil)))) (Fz.le.refl _) ?_
          refine dT 4 rfl rfl rfl (by kernel_rfl) (fun _ _ _ h => h) (y_ld (Says.own (.tail (.tail .head))) Try.isAgg74 rfl (Nat.zero_add _).symm rfl) (.keep (.skip (.keep (.keep .nil)))) (Fz.le.refl _) ?_
          refine dT 5 rfl rfl rfl (by kernel_rfl) (fun _ _ _ h => h) (y_fa0 F39_1 rfl) (.keep (.skip (.keep (.keep .nil)))) (Fz.le.refl _) ?_
          refine dT 6 rfl rfl rfl (by kernel_rfl) (fun _ _ _ h => h) (y_ld (Says.own .head) Try.isAgg22 rfl (Nat.zero_add _).symm rfl) (.keep (.skip (.keep (.keep .nil)))) (Fz.le.refl _) ?_
          refine dE 7 (by kernel_rfl) rfl ?_
          refine cbS Try.underlying22 Try.underlying5 Try.underlying9 rfl q_37.s rfl rfl ?_
          refine dN (.keep (.skip (.keep (.keep .nil)))) (Fz.le.refl _) ?_
          refine dE 8 (by kernel_rfl) rfl ?_
          refine bs' L74 rfl rfl rfl rfl (fun b_39 => ?_)
          refine dN (.skip (.keep (.skip (.keep (.keep .nil))))) (Fz.le.refl _) ?_
          refine dE 9 (by kernel_rfl) rfl ?_
          have hmk : m = k := by have h1 := congrArg List.length pk3; rw [List.length_map, List.length_map, List.length_take] at h1; omega
          refine ap (news := fk ((⟨[.string ⟨((T.at 8).l[k]).s.toArray⟩], rfl, by simp [Value.oneCell', u16, ub]⟩, (T.at 8).l[k]) : KE 1)) Try.underlying74 I9 rfl rfl pk0 (fun _ => (.tail (.tail .head))) (src_says Try.underlying74 rfl (fun _ => Says.own .head) (fk_one _)) (by omega) (by unfold maxLen; omega) rfl (fun a122 c122 N122 r122 z122 => ?_)
          rw [flatMap_snoc'] at r122
          have hin : a122.isNone = false := by cases a122 with | none => have := z122.1 rfl; omega | some _ => rfl
          refine dN (.skip (.keep (.skip (.keep (.keep .nil))))) (Fz.le.refl _) ?_
          refine dE 10 (by kernel_rfl) rfl ?_
          refine nc rfl rfl ?_
          refine dN (.skip (.keep (.skip (.keep (.keep .nil))))) (Fz.le.refl _) ?_
          refine dT 11 rfl rfl rfl (by kernel_rfl) (fun _ _ _ h => h) (y_fa0 F101_9 rfl) (.skip (.keep (.skip (.keep (.keep .nil))))) (Fz.le.refl _) ?_
          refine dE 12 (by kernel_rfl) rfl ?_
          refine st Try.sizeOf74 rfl rfl rfl rfl (.tail (.tail (.tail (.tail .head)))) ?_
          refine dNk (by kernel_rfl) ?_
          refine dD (by kernel_rfl) ?_
          refine Nb ?_
          refine drN .head ?_
          refine drN .head ?_
          refine fun a_ w_ hA hw => ⟨_, _, _, hA.sub ?_, le_29, hw, _, rfl, a122, _, c122, (es ++ [((⟨[.string ⟨((T.at 8).l[k]).s.toArray⟩], rfl, by simp [Value.oneCell', u16, ub]⟩, (T.at 8).l[k]) : KE 1)]), N122, rfl, rfl, r122, (by simp; omega), (fun p hp => (mem_snoc hp).elim (fun h => RText.mono _ _ _ _ (Fz.le.refl _) (pk2 p h)) (fun h => h ▸ RText.mono _ _ _ _ (Fz.le.refl _) (rfl : RText _ _ _))), (map_take_snoc hk pk3), hin⟩
          exact (.cons rfl (.cons rfl (.cons rfl (.cons rfl (.cons rfl (.nil _))))))
        · skip
          obtain ⟨a, m, c_, es, N, rfl, rfl, pk0, pk1, pk2, pk3, pk4⟩ := hI
          refine toNn ?_
          have hm : m = (T.at 8).l.length := by have h1 := congrArg List.length pk3; rw [List.length_map, List.length_map, List.take_length] at h1; omega
          have hfe : es.map (·.2) = (T.at 8).l := by rw [pk3, List.take_length, List.map_id]
          refine frN pk0 .head (fun H2 hle2 hfz => ?_)
          have hrw := RowsAt.row (R := RText) hfz pk1 pk0.le.1 (fun p hp => RText.mono _ _ _ _ hle2 (pk2 p hp))
          rw [hfe, ← hlt] at hrw
          have hnl : m = (lT (T.at 8)).length := by rw [hlt]; exact hm
          have hla : ListAt H2 (T.at 8) 1 RText a c_ := ⟨hrw, by rw [pk4, hnu]⟩
          refine fun a_ w_ hA hw => ⟨_, _, _, hA.sub ?_, (le_30.trans hle2), hw, a, m, c_, rfl, rfl, hnl, hla⟩
          exact (.cons rfl (.cons rfl (.nil _)))
      · skip
        have hnu : (T.at 8).nul = true := by simpa using h96
        refine skN ?_
        refine fun a_ w_ hA hw => ⟨_, _, _, hA.sub ?_, (Fz.le.refl _), hw, none, 0, 0, rfl, rfl, (by rw [lT_nul hnu]; rfl), (ListAt.none hnu)⟩
        exact (.cons rfl (.cons rfl (.nil _)))
    · skip
      obtain ⟨a8, n8, c8, rfl, rfl, pj0, pj1⟩ := hI
      subst pj0
      have hf8 := pj1
      refine sr ?_
      refine fa0 F39_4 rfl rfl ?_
      refine ld (Says.own .head) Try.isAgg37 rfl (Nat.zero_add _).symm rfl rfl ?_
      refine ls Try.runUnderlying37 rfl rfl ?_
      refine mv rfl rfl ?_
      refine nl ?_
      refine nulC2 ?_
      have hun := hf.un
      refine fr (T.u.length) (fun q l' H' L' => ∃ (m : Option Nat), ∃ (kvs : List KV), ∃ (M : Chunk), [(0, .pointer (some ⟨b, 0, none⟩)), (127, .slice c.ua T.u.length c.uc), (128, .int .i64 (T.u.length : Int))] = l' ∧ M :: [(b_1, .cells (c.cells T).toArray 39 (0, 0))] :: [(b, .cells [.int .i16 ver, .int .i32 (IntKind.i32.wrap (T.at 0).n), .int .i16 (IntKind.i16.wrap (T.at 1).n), ub (T.at 2).s 0, ub (T.at 2).s 1, ub (T.at 2).s 2, ub (T.at 2).s 3, ub (T.at 2).s 4, ub (T.at 2).s 5, ub (T.at 2).s 6, ub (T.at 2).s 7, ub (T.at 2).s 8, ub (T.at 2).s 9, ub (T.at 2).s 10, ub (T.at 2).s 11, ub (T.at 2).s 12, ub (T.at 2).s 13, ub (T.at 2).s 14, ub (T.at 2).s 15, .int .i32 (IntKind.i32.wrap (T.at 3).n), .slice a4 (lT (T.at 4)).length c4, .int .i32 (IntKind.i32.wrap (T.at 5).n), .int .i32 (IntKind.i32.wrap (T.at 6).n), .bool (decide ((T.at 7).n % 2 = 1)), .slice a8 (lT (T.at 8)).length c8, .map m].toArray 101 (0, 0))] :: L = L' ∧ MapC m kvs M ∧ KvTo H' (T.u.take q) kvs) [(0, .pointer (some ⟨b, 0, none⟩)), (127, .slice c.ua T.u.length c.uc), (128, .int .i64 (T.u.length : Int))] (fun q l' H' L' h => ?_) (by omega) rfl (.cons rfl (.cons rfl (.cons rfl (.nil _)))) ⟨none, [], [], rfl, rfl, MapC.nil, (KvTo.nil _)⟩ rfl rfl rfl rfl rfl (fun q l' H' L' hq le_40 hI => ?_) (fun l' H' L' le_41 hI => ?_)
      · obtain ⟨m, kvs, M, rfl, _⟩ := h; exact ⟨rfl, rfl, rfl, rfl⟩
      · skip
        obtain ⟨m, kvs, M, rfl, rfl, pq0, pq1⟩ := hI
        refine sr ?_
        obtain ⟨b_42, o_43, e_44, g_45⟩ := (hT.u.mono (le_8.trans (le_26.trans le_40))).at_ (ne_nil_of_lt hq)
        obtain ⟨c_46, q_47, q_48⟩ := g_45 q hq
        refine ix2 Try.runUnderlying37 Try.sizeOf63 rfl e_44 rfl rfl hq rfl ?_
        refine la (Says.fz q_47) Try.isAgg63 Try.sizeOf63 rfl (Nat.add_zero _).symm rfl rfl ?_
        refine al Try.zeroValue63 rfl rfl (fun b_49 => ?_)
        refine sa Try.sizeOf63 rfl rfl rfl rfl rfl .head ?_
        refine nl ?_
        refine rgD 8 (.keep (.skip (.keep .nil))) mixed ?_
        refine dT 0 rfl rfl rfl (by kernel_rfl) (fun _ _ _ h => h) (y_mv rfl) (.keep (.skip (.keep .nil))) (Fz.le.refl _) ?_
        refine dT 1 rfl rfl rfl (by kernel_rfl) (fun _ _ _ h => h) (y_nc rfl) (.keep (.skip (.keep .nil))) (Fz.le.refl _) ?_
        refine dT 2 rfl rfl rfl (by kernel_rfl) (fun _ _ _ h => h) (y_fa0 F101_10 rfl) (.keep (.skip (.keep .nil))) (Fz.le.refl _) ?_
        refine dT 3 rfl rfl rfl (by kernel_rfl) (fun _ _ _ h => h) (y_fa0 F63_0 rfl) (.keep (.skip (.keep .nil))) (Fz.le.refl _) ?_
        refine dT 4 rfl rfl rfl (by kernel_rfl) (fun _ _ _ h => h) (y_ld (Says.own .head) Try.isAgg60 rfl (Nat.zero_add _).symm rfl) (.keep (.skip (.keep .nil))) (Fz.le.refl _) ?_
        refine dT 5 rfl rfl rfl (by kernel_rfl) (fun _ _ _ h => h) (y_fa0 F63_1 rfl) (.keep (.skip (.keep .nil))) (Fz.le.refl _) ?_
        refine dT 6 rfl rfl rfl (by kernel_rfl) (fun _ _ _ h => h) (y_ld (Says.own .head) Try.isAgg22 rfl (Nat.zero_add _).symm rfl) (.keep (.skip (.keep .nil))) (Fz.le.refl _) ?_
        refine dE 7 (by kernel_rfl) rfl ?_
        refine tf (.tail (.tail (.tail .head))) ?_
        refine tf (.tail (.tail .head)) ?_
        refine cl rfl rfl rfl (t_set (cs := [.int .i16 ver, .int .i32 (IntKind.i32.wrap (T.at 0).n), .int .i16 (IntKind.i16.wrap (T.at 1).n), ub (T.at 2).s 0, ub (T.at 2).s 1, ub (T.at 2).s 2, ub (T.at 2).s 3, ub (T.at 2).s 4, ub (T.at 2).s 5, ub (T.at 2).s 6, ub (T.at 2).s 7, ub (T.at 2).s 8, ub (T.at 2).s 9, ub (T.at 2).s 10, ub (T.at 2).s 11, ub (T.at 2).s 12, ub (T.at 2).s 13, ub (T.at 2).s 14, ub (T.at 2).s 15, .int .i32 (IntKind.i32.wrap (T.at 3).n), .slice a4 (lT (T.at 4)).length c4, .int .i32 (IntKind.i32.wrap (T.at 5).n), .int .i32 (IntKind.i32.wrap (T.at 6).n), .bool (decide ((T.at 7).n % 2 = 1)), .slice a8 (lT (T.at 8)).length c8, .map m]) (off := 25) pq0 rfl) rfl (fun v H1 L1 hle hR => ?_)
        obtain ⟨rfl, g140, cs140, hs140, rfl⟩ := hR
        obtain rfl : [.int .i16 ver, .int .i32 (IntKind.i32.wrap (T.at 0).n), .int .i16 (IntKind.i16.wrap (T.at 1).n), ub (T.at 2).s 0, ub (T.at 2).s 1, ub (T.at 2).s 2, ub (T.at 2).s 3, ub (T.at 2).s 4, ub (T.at 2).s 5, ub (T.at 2).s 6, ub (T.at 2).s 7, ub (T.at 2).s 8, ub (T.at 2).s 9, ub (T.at 2).s 10, ub (T.at 2).s 11, ub (T.at 2).s 12, ub (T.at 2).s 13, ub (T.at 2).s 14, ub (T.at 2).s 15, .int .i32 (IntKind.i32.wrap (T.at 3).n), .slice a4 (lT (T.at 4)).length c4, .int .i32 (IntKind.i32.wrap (T.at 5).n), .int .i32 (IntKind.i32.wrap (T.at 6).n), .bool (decide ((T.at 7).n % 2 = 1)), .slice a8 (lT (T.at 8)).length c8, .map (some g140)] = cs140 := Option.some.inj hs140
        refine dN (.skip (.skip (.keep (.keep .nil)))) (Fz.le.refl _) ?_
        refine dD (by kernel_rfl) ?_
        refine Nb ?_
        refine drN (.tail (.tail .head)) ?_
        refine tfN (.tail .head) ?_
        refine tfN (.tail (.tail .head)) ?_
        refine tfN (.tail (.tail .head)) ?_
        refine fun a_ w_ hA hw => ⟨_, _, _, hA.sub ?_, le_40, hw, _, rfl, _, _, [(g140, _)], rfl, rfl, (.inr ⟨g140, rfl, rfl⟩), (KvTo.put hf.u (List.getElem?_eq_getElem hq) pq1 (⟨⟨_, _, rfl, q_48.val⟩, q_48.lo, q_48.hi⟩))⟩
        exact (.cons rfl (.cons rfl (.cons rfl (.cons rfl (.nil _)))))
      · skip
        obtain ⟨m, kvs, M, rfl, rfl, pq0, pq1⟩ := hI
        refine toNn ?_
        rw [List.take_length] at pq1
        refine frMN pq0 .head (fun H3 hle3 hmf => ?_)
        have hft := KvTo.at_ hf.u (pq1.mono hle3) hmf
        refine drN .head ?_
        exact fun _ _ hA hw => rn rfl (le_8.trans (le_26.trans (le_41.trans hle3))) ⟨_, rfl, ⟨a4, c4, a8, c8, m, rfl, (hf4.mono RI8.mono (le_26.trans (le_41.trans hle3))), (hf8.mono RText.mono (le_41.trans hle3)), hft⟩⟩ hA hw
end Go.Sx

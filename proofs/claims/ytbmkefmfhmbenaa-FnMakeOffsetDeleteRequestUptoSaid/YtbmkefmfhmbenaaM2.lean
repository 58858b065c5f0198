import Derived.Test.YtbmkefmfhmbenaaM1
import Derived.KernelRfl
set_option linter.unusedVariables false
set_option linter.unusedSimpArgs false
set_option maxRecDepth 100000
namespace Go.Sx
open Go.Proofs
theorem m_at {H : Fz} {L : Own} {c : TC} {t : Tr} {i : Nat} (hT : TreeAt H c t) :
    Fn Try.prog 63 [.agg (c.cells t).toArray, .int .i64 (i : Int)] H L (fun v H' L' => H = H' ∧ L = L' ∧ ∃ c', v = .agg (c'.cells (t.at i)).toArray ∧ TreeAt H c' (t.at i)) := by
  refine Fn.mk Try.call63 Try.func63 rfl Try.ntmps63 rfl ?_
  refine sr ?_
  refine bx rfl rfl rfl (fun b_1 => ?_)
  refine al Try.zeroValue39 rfl rfl (fun b_2 => ?_)
  refine nl ?_
  refine sq ?_
  refine sr ?_
  refine mv rfl rfl ?_
  refine fa0 F39_3 rfl rfl ?_
  refine ld (Says.own (.tail .head)) Try.isAgg36 rfl (Nat.zero_add _).symm rfl rfl ?_
  refine ls Try.runUnderlying36 rfl rfl ?_
  refine lt rfl rfl rfl ?_
  refine nl ?_
  refine cd rfl (fun h9 => ?_) (fun h9 => ?_)
  · skip
    refine sr ?_
    refine fa0 F39_3 rfl rfl ?_
    refine ld (Says.own (.tail .head)) Try.isAgg36 rfl (Nat.zero_add _).symm rfl rfl ?_
    refine mv rfl rfl ?_
    have hi : i < t.l.length := by omega
    obtain ⟨b_3, o_4, e_5, g_6⟩ := hT.l.at_ (ne_nil_of_lt hi)
    obtain ⟨c_7, q_8, q_9⟩ := g_6 i hi
    refine ix2 Try.runUnderlying36 Try.sizeOf39 rfl e_5 rfl rfl hi rfl ?_
    refine la (Says.fz q_8) Try.isAgg39 Try.sizeOf39 rfl (Nat.add_zero _).symm rfl rfl ?_
    refine sa Try.sizeOf39 rfl rfl rfl rfl rfl .head ?_
    refine nl ?_
    have e1 := Tr.at_lt hi
    refine drW (.tail .head) ?_
    exact rC rfl Try.isAgg39 Try.sizeOf39 rfl .head rfl (Fz.le.refl _) (fun _ _ h => h) ⟨rfl, rfl, c_7, by rw [e1]; rfl, by rw [e1]; exact q_9⟩
  · skip
    refine skt ?_
    refine sr ?_
    refine bd' S39 rfl rfl rfl ?_
    refine sa Try.sizeOf39 rfl rfl rfl rfl rfl .head ?_
    refine nl ?_
    refine drW (.tail .head) ?_
    exact rC rfl Try.isAgg39 Try.sizeOf39 rfl .head rfl (Fz.le.refl _) (fun _ _ h => h) ⟨rfl, rfl, .none, by rw [Tr.at_ge (by omega)]; rfl, by rw [Tr.at_ge (by omega)]; exact .none H⟩
theorem RI8.mono : RMono RI8 := fun _ _ _ _ _ h => h
theorem RI16.mono : RMono RI16 := fun _ _ _ _ _ h => h
theorem RI32.mono : RMono RI32 := fun _ _ _ _ _ h => h
theorem RI64.mono : RMono RI64 := fun _ _ _ _ _ h => h
theorem RText.mono : RMono RText := fun _ _ _ _ _ h => h
def At_OffsetDeleteRequestTopicPartition (H : Fz) (T : Tr) (cs : List Value) : Prop := cs = [.int .i32 (IntKind.i32.wrap (T.at 0).n)]
theorem At_OffsetDeleteRequestTopicPartition.ok {H : Fz} {T : Tr} {cs : List Value} (h : At_OffsetDeleteRequestTopicPartition H T cs) : cs.length = 1 ∧ ∀ u ∈ cs, u.oneCell' = true := by
  subst h
  refine ⟨rfl, ?_⟩
  intro u hu
  simp only [List.mem_cons, List.not_mem_nil, or_false] at hu
  rcases hu with rfl <;> rfl
theorem At_OffsetDeleteRequestTopicPartition.mono : RMono (At_OffsetDeleteRequestTopicPartition) := by
  intro H H' T cs hle h
  subst h
  exact rfl
theorem make_OffsetDeleteRequestTopicPartition {H : Fz} {L : Own} {c : TC} {T : Tr} (hT : TreeAt H c T) (hfew : Few T) :
    Fn Try.prog 90 [.agg (c.cells T).toArray] H L (fun v H' L' => L = L' ∧ ∃ cs : List Value, v = .agg cs.toArray ∧ At_OffsetDeleteRequestTopicPartition H' T cs) := by
  refine Fn.mk Try.call90 Try.func90 rfl Try.ntmps90 rfl ?_
  refine sr ?_
  refine bx rfl rfl rfl (fun b_1 => ?_)
  refine al Try.zeroValue103 rfl rfl (fun b_2 => ?_)
  refine nl ?_
  refine sr ?_
  refine al Try.zeroValue103 rfl rfl (fun b_3 => ?_)
  refine nl ?_
  refine sr ?_
  refine la (Says.own (.tail (.tail .head))) Try.isAgg39 Try.sizeOf39 rfl (Nat.zero_add _).symm rfl rfl ?_
  refine cl rfl rfl rfl (m_at (i := 0) hT) rfl (fun v H1 L1 hle hR => ?_)
  obtain ⟨rfl, rfl, c5, rfl, g5⟩ := hR
  refine fc C39_0 rfl rfl rfl ?_
  refine cv Try.runUnderlying2 Try.runUnderlying21 rfl rfl rfl ?_
  refine fa0 F103_0 rfl rfl ?_
  refine st Try.sizeOf21 rfl rfl rfl rfl .head ?_
  refine nl ?_
  refine sr ?_
  refine la (Says.own .head) Try.isAgg103 Try.sizeOf103 rfl (Nat.zero_add _).symm rfl rfl ?_
  refine sa Try.sizeOf103 rfl rfl rfl rfl rfl (.tail .head) ?_
  refine nl ?_
  refine drW .head ?_
  refine drW (.tail .head) ?_
  exact rC rfl Try.isAgg103 Try.sizeOf103 rfl .head rfl (Fz.le.refl _) (fun _ _ h => h) ⟨rfl, _, rfl, rfl⟩
def At_OffsetDeleteRequestTopic (H : Fz) (T : Tr) (cs : List Value) : Prop := ∃ (a1 : Option Addr) (c1 : Nat), cs = [.string ⟨(T.at 0).s.toArray⟩, .slice a1 (lT (T.at 1)).length c1] ∧ ListAt H (T.at 1) 1 At_OffsetDeleteRequestTopicPartition a1 c1
theorem At_OffsetDeleteRequestTopic.ok {H : Fz} {T : Tr} {cs : List Value} (h : At_OffsetDeleteRequestTopic H T cs) : cs.length = 2 ∧ ∀ u ∈ cs, u.oneCell' = true := by
  obtain ⟨a1, c1, rfl, h1⟩ := h
  refine ⟨rfl, ?_⟩
  intro u hu
  simp only [List.mem_cons, List.not_mem_nil, or_false] at hu
  rcases hu with rfl | rfl <;> rfl
theorem At_OffsetDeleteRequestTopic.mono : RMono (At_OffsetDeleteRequestTopic) := by
  intro H H' T cs hle h
  obtain ⟨a1, c1, rfl, h1⟩ := h
  exact ⟨a1, c1, rfl, h1.mono At_OffsetDeleteRequestTopicPartition.mono hle⟩
theorem make_OffsetDeleteRequestTopic {H : Fz} {L : Own} {c : TC} {T : Tr} (hT : TreeAt H c T) (hfew : Few T) :
    Fn Try.prog 64 [.agg (c.cells T).toArray] H L (fun v H' L' => L = L' ∧ ∃ cs : List Value, v = .agg cs.toArray ∧ At_OffsetDeleteRequestTopic H' T cs) := by
  refine Fn.mk Try.call64 Try.func64 rfl Try.ntmps64 rfl ?_
  refine sr ?_
  refine bx rfl rfl rfl (fun b_1 => ?_)
  refine al Try.zeroValue96 rfl rfl (fun b_2 => ?_)
  refine nl ?_
  refine sr ?_
  refine al Try.zeroValue96 rfl rfl (fun b_3 => ?_)
  refine nl ?_
  refine sr ?_
  refine la (Says.own (.tail (.tail .head))) Try.isAgg39 Try.sizeOf39 rfl (Nat.zero_add _).symm rfl rfl ?_
  refine cl rfl rfl rfl (m_at (i := 0) hT) rfl (fun v H1 L1 hle hR => ?_)
  obtain ⟨rfl, rfl, c7, rfl, g7⟩ := hR
  refine fc C39_1 rfl rfl rfl ?_
  refine cbS Try.underlying22 Try.underlying5 Try.underlying9 rfl g7.s rfl rfl ?_
  refine fa0 F96_0 rfl rfl ?_
  refine st Try.sizeOf9 rfl rfl rfl rfl .head ?_
  refine nl ?_
  refine sq ?_
  refine sr ?_
  refine la (Says.own (.tail (.tail .head))) Try.isAgg39 Try.sizeOf39 rfl (Nat.zero_add _).symm rfl rfl ?_
  refine cl rfl rfl rfl (m_at (i := 1) hT) rfl (fun v H1 L1 hle hR => ?_)
  obtain ⟨rfl, rfl, c12, rfl, g12⟩ := hR
  refine fc C39_2 rfl rfl rfl ?_
  refine nt rfl rfl ?_
  refine nl ?_
  refine capF (N := _) (fun _ => .head) (fun F_4 hF_4 => ?_)
  refine cutT (fun l' H' L' => ∃ (X : Chunk) (a1 : Option Addr) (n1 c1 : Nat), [(2, .pointer (some ⟨b_2, 0, none⟩)), (3, .pointer (some ⟨b_3, 0, none⟩))] = l' ∧ F_4 X = L' ∧ X = [(b_3, .cells [.string ⟨(T.at 0).s.toArray⟩, .slice a1 n1 c1].toArray 96 (0, 0))] ∧ n1 = (lT (T.at 1)).length ∧ ListAt H' (T.at 1) 1 At_OffsetDeleteRequestTopicPartition a1 c1) ?_ (fun l' H' L' le_5 hI => ?_)
  · skip
    rw [hF_4]
    refine cb rfl (fun hb => ?_) (fun hb => ?_)
    · skip
      have hnu : (T.at 1).nul = false := by simpa using hb
      have hlt : lT (T.at 1) = (T.at 1).l := lT_not hnu
      have hfl := (hfew.at 1).len
      refine sr ?_
      refine la (Says.own (.tail (.tail .head))) Try.isAgg39 Try.sizeOf39 rfl (Nat.zero_add _).symm rfl rfl ?_
      refine cl rfl rfl rfl (m_at (i := 1) hT) rfl (fun v H1 L1 hle hR => ?_)
      obtain ⟨rfl, rfl, c16, rfl, g16⟩ := hR
      refine fc C39_3 rfl rfl rfl ?_
      refine ls Try.runUnderlying36 rfl rfl ?_
      refine mks (m := 0) (c := (T.at 1).l.length) (zs := [.int .i32 0]) Try.underlying94 I103 rfl rfl rfl rfl rfl (by omega) (by omega) (by unfold maxLen; omega) rfl (fun bm19 N19 r19 => ?_)
      refine fa0 F96_1 rfl rfl ?_
      refine st Try.sizeOf94 rfl rfl rfl rfl (.tail .head) ?_
      refine nl ?_
      refine sr ?_
      refine la (Says.own (.tail (.tail (.tail .head)))) Try.isAgg39 Try.sizeOf39 rfl (Nat.zero_add _).symm rfl rfl ?_
      refine cl rfl rfl rfl (m_at (i := 1) hT) rfl (fun v H1 L1 hle hR => ?_)
      obtain ⟨rfl, rfl, c22, rfl, g22⟩ := hR
      refine fc C39_3 rfl rfl rfl ?_
      refine ls Try.runUnderlying36 rfl rfl ?_
      refine mv rfl rfl ?_
      refine nl ?_
      refine capF2 (N := N19) (M := _) (fun _ => .head) (fun _ _ => (.tail .head)) (fun F_8 hF_8 => ?_)
      refine fr ((T.at 1).l.length) (fun k l' H' L' => ∃ N : Chunk, ∃ X0_k : Chunk, ∃ a m c_ es, [(3, .pointer (some ⟨b_3, 0, none⟩)), (2, .pointer (some ⟨b_2, 0, none⟩)), (23, .slice c22.la (T.at 1).l.length c22.lc), (24, .int .i64 ((T.at 1).l.length : Int))] = l' ∧ F_8 N X0_k = L' ∧ X0_k = [(b_3, .cells [.string ⟨(T.at 0).s.toArray⟩, .slice a m c_].toArray 96 (0, 0))] ∧ Row 103 1 a m c_ ((es : List (KE 1)).flatMap fk) N ∧ m = es.length ∧ (∀ p : KE 1, p ∈ es → At_OffsetDeleteRequestTopicPartition H' p.2 (fk p)) ∧ es.map (·.2) = ((T.at 1).l.take k).map id ∧ a.isNone = false) [(3, .pointer (some ⟨b_3, 0, none⟩)), (2, .pointer (some ⟨b_2, 0, none⟩)), (23, .slice c22.la (T.at 1).l.length c22.lc), (24, .int .i64 ((T.at 1).l.length : Int))] (fun k l' H' L' h => ?_) (by omega) rfl (.cons rfl (.cons rfl (.cons rfl (.cons rfl (.nil _))))) ⟨N19, _, some ⟨bm19, 0, none⟩, 0, _, [], rfl, rfl, rfl, r19, rfl, (fun p hp => by cases hp), (by simp), rfl⟩ rfl rfl rfl rfl rfl (fun k l' H' L' hk le_6 hI => ?_) (fun l' H' L' le_7 hI => ?_)
      · obtain ⟨N, X0_k, a, m, c_, es, rfl, _⟩ := h; exact ⟨rfl, rfl, rfl, rfl⟩
      · skip
        obtain ⟨N, X0_k, a, m, c_, es, rfl, rfl, rfl, pk0, pk1, pk2, pk3, pk4⟩ := hI
        rw [hF_8]
        refine sr ?_
        obtain ⟨b_9, o_10, e_11, g_12⟩ := (g22.l.mono le_6).at_ (ne_nil_of_lt hk)
        obtain ⟨c_13, q_14, q_15⟩ := g_12 k hk
        refine ix2 Try.runUnderlying36 Try.sizeOf39 rfl e_11 rfl rfl hk rfl ?_
        refine la (Says.fz q_14) Try.isAgg39 Try.sizeOf39 rfl (Nat.add_zero _).symm rfl rfl ?_
        refine al Try.zeroValue39 rfl rfl (fun b_16 => ?_)
        refine sa Try.sizeOf39 rfl rfl rfl rfl rfl .head ?_
        refine nl ?_
        refine rgD 7 (.keep (.skip (.keep (.keep (.keep .nil))))) mixed ?_
        refine dT 0 rfl rfl rfl (by kernel_rfl) (fun _ _ _ h => h) (y_fa0 F96_1 rfl) (.keep (.skip (.keep (.keep (.keep .nil))))) (Fz.le.refl _) ?_
        refine dT 1 rfl rfl rfl (by kernel_rfl) (fun _ _ _ h => h) (y_ld (Says.own (.tail .head)) Try.isAgg94 rfl (Nat.zero_add _).symm rfl) (.keep (.skip (.keep (.keep (.keep .nil))))) (Fz.le.refl _) ?_
        refine dT 2 rfl rfl rfl (by kernel_rfl) (fun _ _ _ h => h) (y_la (Says.own .head) Try.isAgg39 Try.sizeOf39 rfl (Nat.zero_add _).symm rfl) (.keep (.skip (.keep (.keep (.keep .nil))))) (Fz.le.refl _) ?_
        refine dE 3 (by kernel_rfl) rfl ?_
        refine cl rfl rfl rfl (make_OffsetDeleteRequestTopicPartition q_15 ((hfew.at 1).el (List.getElem_mem hk))) rfl (fun v H1 L1 le_17 hR => ?_)
        obtain ⟨rfl, cs32, rfl, g32⟩ := hR
        have ho32 := At_OffsetDeleteRequestTopicPartition.ok g32
        have gg32 := g32
        subst g32
        refine dN (.keep (.skip (.keep (.keep (.keep .nil))))) le_17 ?_
        refine dE 4 (by kernel_rfl) rfl ?_
        refine bs' L94 rfl rfl rfl rfl (fun b_18 => ?_)
        refine dN (.skip (.keep (.skip (.keep (.keep (.keep .nil)))))) le_17 ?_
        refine dE 5 (by kernel_rfl) rfl ?_
        have hmk : m = k := by have h1 := congrArg List.length pk3; rw [List.length_map, List.length_map, List.length_take] at h1; omega
        refine ap (news := fk ((⟨_, ho32⟩, (T.at 1).l[k]) : KE 1)) Try.underlying94 I103 rfl rfl pk0 (fun _ => (.tail (.tail .head))) (src_says Try.underlying94 rfl (fun _ => Says.own .head) (fk_one _)) (by omega) (by unfold maxLen; omega) rfl (fun a34 c34 N34 r34 z34 => ?_)
        rw [flatMap_snoc'] at r34
        have hin : a34.isNone = false := by cases a34 with | none => have := z34.1 rfl; omega | some _ => rfl
        refine dN (.skip (.keep (.skip (.keep (.keep (.keep .nil)))))) le_17 ?_
        refine dT 6 rfl rfl rfl (by kernel_rfl) (fun _ _ _ h => h) (y_fa0 F96_1 rfl) (.skip (.keep (.skip (.keep (.keep (.keep .nil)))))) le_17 ?_
        refine dE 7 (by kernel_rfl) rfl ?_
        refine st Try.sizeOf94 rfl rfl rfl rfl (.tail (.tail (.tail .head))) ?_
        refine dNk (by kernel_rfl) ?_
        refine dD (by kernel_rfl) ?_
        refine Nb ?_
        refine drN .head ?_
        refine drN .head ?_
        refine fun a w hA hw => ⟨_, _, _, hA.sub ?_, (le_6.trans le_17), hw, _, rfl, N34, _, a34, _, c34, (es ++ [((⟨_, ho32⟩, (T.at 1).l[k]) : KE 1)]), rfl, hF_8 _ _, rfl, r34, (by simp; omega), (fun p hp => (mem_snoc hp).elim (fun h => At_OffsetDeleteRequestTopicPartition.mono _ _ _ _ le_17 (pk2 p h)) (fun h => h ▸ At_OffsetDeleteRequestTopicPartition.mono _ _ _ _ (Fz.le.refl _) gg32)), (map_take_snoc hk pk3), hin⟩
        exact (.cons rfl (.cons rfl (.cons rfl (.cons rfl (.cons rfl (.nil _))))))
      · skip
        obtain ⟨N, X0_k, a, m, c_, es, rfl, rfl, rfl, pk0, pk1, pk2, pk3, pk4⟩ := hI
        rw [hF_8]
        refine toNn ?_
        have hm : m = (T.at 1).l.length := by have h1 := congrArg List.length pk3; rw [List.length_map, List.length_map, List.take_length] at h1; omega
        have hfe : es.map (·.2) = (T.at 1).l := by rw [pk3, List.take_length, List.map_id]
        refine frN pk0 .head (fun H2 hle2 hfz => ?_)
        have hrw := RowsAt.row (R := At_OffsetDeleteRequestTopicPartition) hfz pk1 pk0.le.1 (fun p hp => At_OffsetDeleteRequestTopicPartition.mono _ _ _ _ hle2 (pk2 p hp))
        rw [hfe, ← hlt] at hrw
        have hnl : m = (lT (T.at 1)).length := by rw [hlt]; exact hm
        have hla : ListAt H2 (T.at 1) 1 At_OffsetDeleteRequestTopicPartition a c_ := ⟨hrw, by rw [pk4, hnu]⟩
        refine fun a_ w hA hw => ⟨_, _, _, hA.sub ?_, (le_7.trans hle2), hw, _, a, m, c_, rfl, hF_4 _, rfl, hnl, hla⟩
        exact (.cons rfl (.cons rfl (.nil _)))
    · skip
      have hnu : (T.at 1).nul = true := by simpa using hb
      refine skN ?_
      refine fun a_ w hA hw => ⟨_, _, _, hA.sub ?_, (Fz.le.refl _), hw, _, none, 0, 0, rfl, hF_4 _, rfl, (by rw [lT_nul hnu]; rfl), ListAt.none hnu⟩
      exact (.cons rfl (.cons rfl (.nil _)))
  · skip
    obtain ⟨X, a1, n1, c1, rfl, rfl, rfl, rfl, hl1⟩ := hI
    rw [hF_4]
    refine sr ?_
    refine la (Says.own .head) Try.isAgg96 Try.sizeOf96 rfl (Nat.zero_add _).symm rfl rfl ?_
    refine sa Try.sizeOf96 rfl rfl rfl rfl rfl (.tail .head) ?_
    refine nl ?_
    refine drW .head ?_
    refine drW (.tail .head) ?_
    exact rC rfl Try.isAgg96 Try.sizeOf96 rfl .head rfl le_5 (fun _ _ h => h) ⟨rfl, _, rfl, ⟨a1, c1, rfl, (hl1.mono At_OffsetDeleteRequestTopicPartition.mono (Fz.le.refl _))⟩⟩
def At_OffsetDeleteRequest (ver : Int) (H : Fz) (T : Tr) (cs : List Value) : Prop := ∃ (a1 : Option Addr) (c1 : Nat), cs = [.int .i16 ver, .string ⟨(T.at 0).s.toArray⟩, .slice a1 (lT (T.at 1)).length c1] ∧ ListAt H (T.at 1) 2 At_OffsetDeleteRequestTopic a1 c1
theorem At_OffsetDeleteRequest.ok {ver : Int} {H : Fz} {T : Tr} {cs : List Value} (h : At_OffsetDeleteRequest ver H T cs) : cs.length = 3 ∧ ∀ u ∈ cs, u.oneCell' = true := by
  obtain ⟨a1, c1, rfl, h1⟩ := h
  refine ⟨rfl, ?_⟩
  intro u hu
  simp only [List.mem_cons, List.not_mem_nil, or_false] at hu
  rcases hu with rfl | rfl | rfl <;> rfl
theorem At_OffsetDeleteRequest.mono (ver : Int) : RMono (At_OffsetDeleteRequest ver) := by
  intro H H' T cs hle h
  obtain ⟨a1, c1, rfl, h1⟩ := h
  exact ⟨a1, c1, rfl, h1.mono At_OffsetDeleteRequestTopic.mono hle⟩
theorem fill_OffsetDeleteRequest {H : Fz} {L : Own} {b : Nat} {ver : Int} {c : TC} {T : Tr} (hT : TreeAt H c T) (hfew : Few T) :
    Fn Try.prog 34 [.pointer (some ⟨b, 0, none⟩), .agg (c.cells T).toArray] H ([(b, .cells [.int .i16 ver, .string ⟨#[]⟩, .slice none 0 0].toArray 54 (0, 0))] :: L) (fun v H' L' => ∃ cs : List Value, L' = [(b, .cells cs.toArray 54 (0, 0))] :: L ∧ At_OffsetDeleteRequest ver H' T cs) := by
  refine Fn.mk Try.call34 Try.func34 rfl Try.ntmps34 rfl ?_
  refine sr ?_
  refine bx rfl rfl rfl (fun b_1 => ?_)
  refine nl ?_
  refine sr ?_
  refine mv rfl rfl ?_
  refine la (Says.own .head) Try.isAgg39 Try.sizeOf39 rfl (Nat.zero_add _).symm rfl rfl ?_
  refine cl rfl rfl rfl (m_at (i := 0) hT) rfl (fun v H1 L1 hle hR => ?_)
  obtain ⟨rfl, rfl, c8, rfl, g8⟩ := hR
  refine fc C39_1 rfl rfl rfl ?_
  refine cbS Try.underlying22 Try.underlying5 Try.underlying9 rfl g8.s rfl rfl ?_
  refine nc rfl rfl ?_
  refine fa0 F54_1 rfl rfl ?_
  refine st Try.sizeOf9 rfl rfl rfl rfl (.tail .head) ?_
  refine nl ?_
  refine sr ?_
  refine la (Says.own .head) Try.isAgg39 Try.sizeOf39 rfl (Nat.zero_add _).symm rfl rfl ?_
  refine cl rfl rfl rfl (m_at (i := 1) hT) rfl (fun v H1 L1 hle hR => ?_)
  obtain ⟨rfl, rfl, c14, rfl, g14⟩ := hR
  refine fc C39_2 rfl rfl rfl ?_
  refine nt rfl rfl ?_
  refine nl ?_
  refine cb rfl (fun hb => ?_) (fun hb => ?_)
  · skip
    have hnu : (T.at 1).nul = false := by simpa using hb
    have hlt : lT (T.at 1) = (T.at 1).l := lT_not hnu
    have hfl := (hfew.at 1).len
    refine sr ?_
    refine mv rfl rfl ?_
    refine la (Says.own .head) Try.isAgg39 Try.sizeOf39 rfl (Nat.zero_add _).symm rfl rfl ?_
    refine cl rfl rfl rfl (m_at (i := 1) hT) rfl (fun v H1 L1 hle hR => ?_)
    obtain ⟨rfl, rfl, c19, rfl, g19⟩ := hR
    refine fc C39_3 rfl rfl rfl ?_
    refine ls Try.runUnderlying36 rfl rfl ?_
    refine mks (m := 0) (c := (T.at 1).l.length) (zs := [.string ⟨#[]⟩, .slice none 0 0]) Try.underlying52 I96 rfl rfl rfl rfl rfl (by omega) (by omega) (by unfold maxLen; omega) rfl (fun bm22 N22 r22 => ?_)
    refine nc rfl rfl ?_
    refine fa0 F54_2 rfl rfl ?_
    refine st Try.sizeOf52 rfl rfl rfl rfl (.tail (.tail .head)) ?_
    refine nl ?_
    refine sr ?_
    refine la (Says.own (.tail .head)) Try.isAgg39 Try.sizeOf39 rfl (Nat.zero_add _).symm rfl rfl ?_
    refine cl rfl rfl rfl (m_at (i := 1) hT) rfl (fun v H1 L1 hle hR => ?_)
    obtain ⟨rfl, rfl, c26, rfl, g26⟩ := hR
    refine fc C39_3 rfl rfl rfl ?_
    refine ls Try.runUnderlying36 rfl rfl ?_
    refine mv rfl rfl ?_
    refine nl ?_
    refine capF2 (N := N22) (M := _) (fun _ => .head) (fun _ _ => (.tail (.tail .head))) (fun F_4 hF_4 => ?_)
    refine fr ((T.at 1).l.length) (fun k l' H' L' => ∃ N : Chunk, ∃ X0_k : Chunk, ∃ a m c_ es, [(0, .pointer (some ⟨b, 0, none⟩)), (27, .slice c26.la (T.at 1).l.length c26.lc), (28, .int .i64 ((T.at 1).l.length : Int))] = l' ∧ F_4 N X0_k = L' ∧ X0_k = [(b, .cells [.int .i16 ver, .string ⟨(T.at 0).s.toArray⟩, .slice a m c_].toArray 54 (0, 0))] ∧ Row 96 2 a m c_ ((es : List (KE 2)).flatMap fk) N ∧ m = es.length ∧ (∀ p : KE 2, p ∈ es → At_OffsetDeleteRequestTopic H' p.2 (fk p)) ∧ es.map (·.2) = ((T.at 1).l.take k).map id ∧ a.isNone = false) [(0, .pointer (some ⟨b, 0, none⟩)), (27, .slice c26.la (T.at 1).l.length c26.lc), (28, .int .i64 ((T.at 1).l.length : Int))] (fun k l' H' L' h => ?_) (by omega) rfl (.cons rfl (.cons rfl (.cons rfl (.nil _)))) ⟨N22, _, some ⟨bm22, 0, none⟩, 0, _, [], rfl, rfl, rfl, r22, rfl, (fun p hp => by cases hp), (by simp), rfl⟩ rfl rfl rfl rfl rfl (fun k l' H' L' hk le_2 hI => ?_) (fun l' H' L' le_3 hI => ?_)
    · obtain ⟨N, X0_k, a, m, c_, es, rfl, _⟩ := h; exact ⟨rfl, rfl, rfl, rfl⟩
    · skip
      obtain ⟨N, X0_k, a, m, c_, es, rfl, rfl, rfl, pk0, pk1, pk2, pk3, pk4⟩ := hI
      rw [hF_4]
      refine sr ?_
      obtain ⟨b_5, o_6, e_7, g_8⟩ := (g26.l.mono le_2).at_ (ne_nil_of_lt hk)
      obtain ⟨c_9, q_10, q_11⟩ := g_8 k hk
      refine ix2 Try.runUnderlying36 Try.sizeOf39 rfl e_7 rfl rfl hk rfl ?_
      refine la (Says.fz q_10) Try.isAgg39 Try.sizeOf39 rfl (Nat.add_zero _).symm rfl rfl ?_
      refine al Try.zeroValue39 rfl rfl (fun b_12 => ?_)
      refine sa Try.sizeOf39 rfl rfl rfl rfl rfl .head ?_
      refine nl ?_
      refine rgD 11 (.keep (.skip (.keep (.keep .nil)))) mixed ?_
      refine dT 0 rfl rfl rfl (by kernel_rfl) (fun _ _ _ h => h) (y_mv rfl) (.keep (.skip (.keep (.keep .nil)))) (Fz.le.refl _) ?_
      refine dT 1 rfl rfl rfl (by kernel_rfl) (fun _ _ _ h => h) (y_mv rfl) (.keep (.skip (.keep (.keep .nil)))) (Fz.le.refl _) ?_
      refine dT 2 rfl rfl rfl (by kernel_rfl) (fun _ _ _ h => h) (y_nc rfl) (.keep (.skip (.keep (.keep .nil)))) (Fz.le.refl _) ?_
      refine dT 3 rfl rfl rfl (by kernel_rfl) (fun _ _ _ h => h) (y_fa0 F54_2 rfl) (.keep (.skip (.keep (.keep .nil)))) (Fz.le.refl _) ?_
      refine dT 4 rfl rfl rfl (by kernel_rfl) (fun _ _ _ h => h) (y_ld (Says.own (.tail (.tail .head))) Try.isAgg52 rfl (Nat.zero_add _).symm rfl) (.keep (.skip (.keep (.keep .nil)))) (Fz.le.refl _) ?_
      refine dT 5 rfl rfl rfl (by kernel_rfl) (fun _ _ _ h => h) (y_la (Says.own .head) Try.isAgg39 Try.sizeOf39 rfl (Nat.zero_add _).symm rfl) (.keep (.skip (.keep (.keep .nil)))) (Fz.le.refl _) ?_
      refine dE 6 (by kernel_rfl) rfl ?_
      refine cl rfl rfl rfl (make_OffsetDeleteRequestTopic q_11 ((hfew.at 1).el (List.getElem_mem hk))) rfl (fun v H1 L1 le_13 hR => ?_)
      obtain ⟨rfl, cs39, rfl, g39⟩ := hR
      have ho39 := At_OffsetDeleteRequestTopic.ok g39
      have gg39 := g39
      obtain ⟨a1e, c1e, rfl, he0⟩ := g39
      refine dN (.keep (.skip (.keep (.keep .nil)))) le_13 ?_
      refine dE 7 (by kernel_rfl) rfl ?_
      refine bs' L52 rfl rfl rfl rfl (fun b_14 => ?_)
      refine dN (.skip (.keep (.skip (.keep (.keep .nil))))) le_13 ?_
      refine dE 8 (by kernel_rfl) rfl ?_
      have hmk : m = k := by have h1 := congrArg List.length pk3; rw [List.length_map, List.length_map, List.length_take] at h1; omega
      refine ap (news := fk ((⟨_, ho39⟩, (T.at 1).l[k]) : KE 2)) Try.underlying52 I96 rfl rfl pk0 (fun _ => (.tail (.tail .head))) (src_says Try.underlying52 rfl (fun _ => Says.own .head) (fk_one _)) (by omega) (by unfold maxLen; omega) rfl (fun a41 c41 N41 r41 z41 => ?_)
      rw [flatMap_snoc'] at r41
      have hin : a41.isNone = false := by cases a41 with | none => have := z41.1 rfl; omega | some _ => rfl
      refine dN (.skip (.keep (.skip (.keep (.keep .nil))))) le_13 ?_
      refine dE 9 (by kernel_rfl) rfl ?_
      refine nc rfl rfl ?_
      refine dN (.skip (.keep (.skip (.keep (.keep .nil))))) le_13 ?_
      refine dT 10 rfl rfl rfl (by kernel_rfl) (fun _ _ _ h => h) (y_fa0 F54_2 rfl) (.skip (.keep (.skip (.keep (.keep .nil))))) le_13 ?_
      refine dE 11 (by kernel_rfl) rfl ?_
      refine st Try.sizeOf52 rfl rfl rfl rfl (.tail (.tail (.tail (.tail .head)))) ?_
      refine dNk (by kernel_rfl) ?_
      refine dD (by kernel_rfl) ?_
      refine Nb ?_
      refine drN .head ?_
      refine drN .head ?_
      refine fun a w hA hw => ⟨_, _, _, hA.sub ?_, (le_2.trans le_13), hw, _, rfl, N41, _, a41, _, c41, (es ++ [((⟨_, ho39⟩, (T.at 1).l[k]) : KE 2)]), rfl, hF_4 _ _, rfl, r41, (by simp; omega), (fun p hp => (mem_snoc hp).elim (fun h => At_OffsetDeleteRequestTopic.mono _ _ _ _ le_13 (pk2 p h)) (fun h => h ▸ At_OffsetDeleteRequestTopic.mono _ _ _ _ (Fz.le.refl _) gg39)), (map_take_snoc hk pk3), hin⟩
      exact (.cons rfl (.cons rfl (.cons rfl (.cons rfl (.nil _)))))
    · skip
      obtain ⟨N, X0_k, a, m, c_, es, rfl, rfl, rfl, pk0, pk1, pk2, pk3, pk4⟩ := hI
      rw [hF_4]
      refine toNn ?_
      have hm : m = (T.at 1).l.length := by have h1 := congrArg List.length pk3; rw [List.length_map, List.length_map, List.take_length] at h1; omega
      have hfe : es.map (·.2) = (T.at 1).l := by rw [pk3, List.take_length, List.map_id]
      refine frN pk0 .head (fun H2 hle2 hfz => ?_)
      have hrw := RowsAt.row (R := At_OffsetDeleteRequestTopic) hfz pk1 pk0.le.1 (fun p hp => At_OffsetDeleteRequestTopic.mono _ _ _ _ hle2 (pk2 p hp))
      rw [hfe, ← hlt] at hrw
      have hnl : m = (lT (T.at 1)).length := by rw [hlt]; exact hm
      have hla : ListAt H2 (T.at 1) 2 At_OffsetDeleteRequestTopic a c_ := ⟨hrw, by rw [pk4, hnu]⟩
      refine drN .head ?_
      subst hnl
      exact fun _ _ hA hw => rn rfl (le_3.trans hle2) ⟨_, rfl, ⟨a, c_, rfl, hla⟩⟩ hA hw
  · skip
    have hnu : (T.at 1).nul = true := by simpa using hb
    refine skN ?_
    refine drN .head ?_
    exact fun _ _ hA hw => rn rfl (Fz.le.refl _) ⟨_, rfl, ⟨none, 0, (by rw [lT_nul hnu]; rfl), (ListAt.none hnu)⟩⟩ hA hw
end Go.Sx

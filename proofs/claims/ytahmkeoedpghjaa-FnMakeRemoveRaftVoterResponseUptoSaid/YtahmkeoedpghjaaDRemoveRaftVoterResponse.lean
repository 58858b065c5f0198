import Derived.Test.YtahmkeoedpghjaaBRemoveRaftVoterResponse
import Derived.Test.YtahmkeoedpghjaaD0
import Derived.KernelRfl
set_option linter.unusedVariables false
set_option linter.unusedSimpArgs false
set_option maxRecDepth 100000
set_option maxHeartbeats 20000000
namespace Go.Sx
open Go.Proofs
theorem fill_RemoveRaftVoterResponse {H : Fz} {L : Own} {b : Nat} {ver : Int} {c : TC} {T : Tr} (hT : TreeAt H c T) (hf : Fine T) :
    Fn Try.prog 57 [.pointer (some ⟨b, 0, none⟩), .agg (c.cells T).toArray] H ([(b, .cells [.int .i16 ver, .int .i32 0, .int .i16 0, .pointer none, .map none].toArray 56 (0, 0))] :: L) (fun _ H' L' => ∃ cs : List Value, L' = [(b, .cells cs.toArray 56 (0, 0))] :: L ∧ At_RemoveRaftVoterResponse ver H' T cs) := by
  refine Fn.mk Try.call57 Try.func57 rfl Try.ntmps57 rfl ?_
  refine sr ?_
  refine bx rfl rfl rfl (fun b_1 => ?_)
  refine nl ?_
  refine sr ?_
  refine mv rfl rfl ?_
  refine la (Says.own .head) Try.isAgg39 Try.sizeOf39 rfl (Nat.zero_add _).symm rfl rfl ?_
  refine cl rfl rfl rfl (m_at (i := 0) hT) rfl (fun v H1 L1 hle hR => ?_)
  obtain ⟨rfl, rfl, c8, rfl, g8⟩ := hR
  refine fc C39_0 rfl rfl rfl ?_
  refine cv Try.runUnderlying2 Try.runUnderlying21 rfl rfl rfl ?_
  refine nc rfl rfl ?_
  refine fa0 F56_1 rfl rfl ?_
  refine st Try.sizeOf21 rfl rfl rfl rfl (.tail .head) ?_
  refine nl ?_
  refine sr ?_
  refine mv rfl rfl ?_
  refine la (Says.own .head) Try.isAgg39 Try.sizeOf39 rfl (Nat.zero_add _).symm rfl rfl ?_
  refine cl rfl rfl rfl (m_at (i := 1) hT) rfl (fun v H1 L1 hle hR => ?_)
  obtain ⟨rfl, rfl, c15, rfl, g15⟩ := hR
  refine fc C39_0 rfl rfl rfl ?_
  refine cv Try.runUnderlying2 Try.runUnderlying45 rfl rfl rfl ?_
  refine nc rfl rfl ?_
  refine fa0 F56_2 rfl rfl ?_
  refine st Try.sizeOf45 rfl rfl rfl rfl (.tail .head) ?_
  refine nl ?_
  refine sr ?_
  refine mv rfl rfl ?_
  refine la (Says.own .head) Try.isAgg39 Try.sizeOf39 rfl (Nat.zero_add _).symm rfl rfl ?_
  refine cl rfl rfl rfl (m_at (i := 2) hT) rfl (fun v H1 L1 hle hR => ?_)
  obtain ⟨rfl, rfl, c22, rfl, g22⟩ := hR
  refine cl rfl rfl rfl (m_textOf g22) rfl (fun v H1 L1 le_5 hR => ?_)
  obtain ⟨rfl, p2, rfl, hf2⟩ := hR
  refine nc rfl rfl ?_
  refine fa0 F56_3 rfl rfl ?_
  refine st Try.sizeOf51 rfl rfl rfl rfl (.tail .head) ?_
  refine nl ?_
  refine sr ?_
  refine fa0 F39_4 rfl rfl ?_
  refine ld (Says.own .head) Try.isAgg37 rfl (Nat.zero_add _).symm rfl rfl ?_
  refine ls Try.runUnderlying37 rfl rfl ?_
  refine mv rfl rfl ?_
  refine nl ?_
  refine nulC2 ?_
  have hun := hf.un
  refine fr (T.u.length) (fun q l' H' L' => ∃ (m : Option Nat), ∃ (kvs : List KV), ∃ (M : Chunk), [(0, .pointer (some ⟨b, 0, none⟩)), (27, .slice c.ua T.u.length c.uc), (28, .int .i64 (T.u.length : Int))] = l' ∧ M :: [(b_1, .cells (c.cells T).toArray 39 (0, 0))] :: [(b, .cells [.int .i16 ver, .int .i32 (IntKind.i32.wrap (T.at 0).n), .int .i16 (IntKind.i16.wrap (T.at 1).n), .pointer p2, .map m].toArray 56 (0, 0))] :: L = L' ∧ MapC m kvs M ∧ KvTo H' (T.u.take q) kvs) [(0, .pointer (some ⟨b, 0, none⟩)), (27, .slice c.ua T.u.length c.uc), (28, .int .i64 (T.u.length : Int))] (fun q l' H' L' h => ?_) (by omega) rfl (.cons rfl (.cons rfl (.cons rfl (.nil _)))) ⟨none, [], [], rfl, rfl, MapC.nil, (KvTo.nil _)⟩ rfl rfl rfl rfl rfl (fun q l' H' L' hq le_6 hI => ?_) (fun l' H' L' le_7 hI => ?_)
  · obtain ⟨m, kvs, M, rfl, _⟩ := h; exact ⟨rfl, rfl, rfl, rfl⟩
  · skip
    obtain ⟨m, kvs, M, rfl, rfl, pq0, pq1⟩ := hI
    refine sr ?_
    obtain ⟨b_8, o_9, e_10, g_11⟩ := (hT.u.mono (le_5.trans le_6)).at_ (ne_nil_of_lt hq)
    obtain ⟨c_12, q_13, q_14⟩ := g_11 q hq
    refine ix2 Try.runUnderlying37 Try.sizeOf63 rfl e_10 rfl rfl hq rfl ?_
    refine la (Says.fz q_13) Try.isAgg63 Try.sizeOf63 rfl (Nat.add_zero _).symm rfl rfl ?_
    refine al Try.zeroValue63 rfl rfl (fun b_15 => ?_)
    refine sa Try.sizeOf63 rfl rfl rfl rfl rfl .head ?_
    refine nl ?_
    refine rgD 8 (.keep (.skip (.keep .nil))) mixed ?_
    refine dT 0 rfl rfl rfl (by kernel_rfl) (fun _ _ _ h => h) (y_mv rfl) (.keep (.skip (.keep .nil))) (Fz.le.refl _) ?_
    refine dT 1 rfl rfl rfl (by kernel_rfl) (fun _ _ _ h => h) (y_nc rfl) (.keep (.skip (.keep .nil))) (Fz.le.refl _) ?_
    refine dT 2 rfl rfl rfl (by kernel_rfl) (fun _ _ _ h => h) (y_fa0 F56_4 rfl) (.keep (.skip (.keep .nil))) (Fz.le.refl _) ?_
    refine dT 3 rfl rfl rfl (by kernel_rfl) (fun _ _ _ h => h) (y_fa0 F63_0 rfl) (.keep (.skip (.keep .nil))) (Fz.le.refl _) ?_
    refine dT 4 rfl rfl rfl (by kernel_rfl) (fun _ _ _ h => h) (y_ld (Says.own .head) Try.isAgg60 rfl (Nat.zero_add _).symm rfl) (.keep (.skip (.keep .nil))) (Fz.le.refl _) ?_
    refine dT 5 rfl rfl rfl (by kernel_rfl) (fun _ _ _ h => h) (y_fa0 F63_1 rfl) (.keep (.skip (.keep .nil))) (Fz.le.refl _) ?_
    refine dT 6 rfl rfl rfl (by kernel_rfl) (fun _ _ _ h => h) (y_ld (Says.own .head) Try.isAgg22 rfl (Nat.zero_add _).symm rfl) (.keep (.skip (.keep .nil))) (Fz.le.refl _) ?_
    refine dE 7 (by kernel_rfl) rfl ?_
    refine tf (.tail (.tail (.tail .head))) ?_
    refine tf (.tail (.tail .head)) ?_
    refine cl rfl rfl rfl (t_set (cs := [.int .i16 ver, .int .i32 (IntKind.i32.wrap (T.at 0).n), .int .i16 (IntKind.i16.wrap (T.at 1).n), .pointer p2, .map m]) (off := 4) pq0 rfl) rfl (fun v H1 L1 hle hR => ?_)
    obtain ⟨rfl, g40, cs40, hs40, rfl⟩ := hR
    obtain rfl : [.int .i16 ver, .int .i32 (IntKind.i32.wrap (T.at 0).n), .int .i16 (IntKind.i16.wrap (T.at 1).n), .pointer p2, .map (some g40)] = cs40 := Option.some.inj hs40
    refine dN (.skip (.skip (.keep (.keep .nil)))) (Fz.le.refl _) ?_
    refine dD (by kernel_rfl) ?_
    refine Nb ?_
    refine drN (.tail (.tail .head)) ?_
    refine tfN (.tail .head) ?_
    refine tfN (.tail (.tail .head)) ?_
    refine tfN (.tail (.tail .head)) ?_
    refine fun a_ w_ hA hw => ⟨_, _, _, hA.sub ?_, le_6, hw, _, rfl, _, _, [(g40, _)], rfl, rfl, (.inr ⟨g40, rfl, rfl⟩), (KvTo.put hf.u (List.getElem?_eq_getElem hq) pq1 (⟨⟨_, _, rfl, q_14.val⟩, q_14.lo, q_14.hi⟩))⟩
    exact (.cons rfl (.cons rfl (.cons rfl (.cons rfl (.nil _)))))
  · skip
    obtain ⟨m, kvs, M, rfl, rfl, pq0, pq1⟩ := hI
    refine toNn ?_
    rw [List.take_length] at pq1
    refine frMN pq0 .head (fun H3 hle3 hmf => ?_)
    have hft := KvTo.at_ hf.u (pq1.mono hle3) hmf
    refine drN .head ?_
    exact fun _ _ hA hw => rn rfl (le_5.trans (le_7.trans hle3)) ⟨_, rfl, ⟨p2, m, rfl, (hf2.mono (le_7.trans hle3)), hft⟩⟩ hA hw
end Go.Sx

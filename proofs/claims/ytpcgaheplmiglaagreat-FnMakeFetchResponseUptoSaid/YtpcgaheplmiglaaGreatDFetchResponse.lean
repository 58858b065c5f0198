import Derived.Test.YtpcgaheplmiglaaGreatBFetchResponse
import Derived.Test.YtpcgaheplmiglaaGreatD0
import Derived.KernelRfl
set_option linter.unusedVariables false
set_option linter.unusedSimpArgs false
set_option maxRecDepth 100000
set_option maxHeartbeats 20000000
namespace Go.Sx
open Go.Proofs
theorem make_FetchResponseTopicPartitionDivergingEpoch {H : Fz} {L : Own} {c : TC} {T : Tr} (hT : TreeAt H c T) (hf : Fine T) :
  Fn Tryz.prog 86 [.agg (c.cells T).toArray] H L (fun v H' L' => L = L' ∧ ∃ cs : List Value, v = .agg cs.toArray ∧ At_FetchResponseTopicPartitionDivergingEpoch H' T cs) := by
 refine Fn.mk Tryz.call86 Tryz.func86 rfl Tryz.ntmps86 rfl ?_
 refine sr ?_
 refine bx rfl rfl rfl (fun b_1 => ?_)
 refine al Tryz.zeroValue90 rfl rfl (fun b_2 => ?_)
 refine nl ?_
 refine sr ?_
 refine al Tryz.zeroValue90 rfl rfl (fun b_3 => ?_)
 refine nl ?_
 refine sr ?_
 refine la (Says.own (.tail (.tail .head))) Tryz.isAgg39 Tryz.sizeOf39 rfl (Nat.zero_add _).symm rfl rfl ?_
 refine cl rfl rfl rfl (m_at (i := 0) hT) rfl (fun v H1 L1 hle hR => ?_)
 obtain ⟨rfl, rfl, c7, rfl, g7⟩ := hR
 refine fc C39_0 rfl rfl rfl ?_
 refine cv Tryz.runUnderlying2 Tryz.runUnderlying21 rfl rfl rfl ?_
 refine fa0 F90_0 rfl rfl ?_
 refine st Tryz.sizeOf21 rfl rfl rfl rfl .head ?_
 refine nl ?_
 refine sr ?_
 refine la (Says.own (.tail (.tail .head))) Tryz.isAgg39 Tryz.sizeOf39 rfl (Nat.zero_add _).symm rfl rfl ?_
 refine cl rfl rfl rfl (m_at (i := 1) hT) rfl (fun v H1 L1 hle hR => ?_)
 obtain ⟨rfl, rfl, c12, rfl, g12⟩ := hR
 refine fc C39_0 rfl rfl rfl ?_
 refine fa0 F90_1 rfl rfl ?_
 refine st Tryz.sizeOf2 rfl rfl rfl rfl .head ?_
 refine nl ?_
 refine sq ?_
 refine sr ?_
 refine fa0 F39_4 rfl rfl ?_
 refine ld (Says.own (.tail (.tail .head))) Tryz.isAgg37 rfl (Nat.zero_add _).symm rfl rfl ?_
 refine ls Tryz.runUnderlying37 rfl rfl ?_
 refine mv rfl rfl ?_
 refine nl ?_
 refine nulC2 ?_
 have hun := hf.un
 refine fr (T.u.length) (fun q l' H' L' => ∃ (m : Option Nat), ∃ (kvs : List KV), ∃ (M : Chunk), [(2, .pointer (some ⟨b_2, 0, none⟩)), (3, .pointer (some ⟨b_3, 0, none⟩)), (16, .slice c.ua T.u.length c.uc), (17, .int .i64 (T.u.length : Int))] = l' ∧ M :: [(b_3, .cells [.int .i32 (IntKind.i32.wrap (T.at 0).n), .int .i64 (T.at 1).n, .map m].toArray 90 (0, 0))] :: [(b_2, .cells [.int .i32 0, .int .i64 0, .map none].toArray 90 (0, 0))] :: [(b_1, .cells (c.cells T).toArray 39 (0, 0))] :: L = L' ∧ MapC m kvs M ∧ KvTo H' (T.u.take q) kvs ∧ (m = none ∨ 0 < q)) [(2, .pointer (some ⟨b_2, 0, none⟩)), (3, .pointer (some ⟨b_3, 0, none⟩)), (16, .slice c.ua T.u.length c.uc), (17, .int .i64 (T.u.length : Int))] (fun q l' H' L' h => ?_) (by omega) rfl (.of ⟨rfl, rfl, rfl, rfl, trivial⟩) ⟨none, [], [], rfl, rfl, MapC.nil, (KvTo.nil _), (.inl rfl)⟩ rfl rfl rfl rfl rfl (fun q l' H' L' hq le_6 hI => ?_) (fun l' H' L' le_7 hI => ?_)
 · obtain ⟨m, kvs, M, rfl, _⟩ := h; exact ⟨rfl, rfl, rfl, rfl⟩
 ·
  obtain ⟨m, kvs, M, rfl, rfl, pq0, pq1, pq2⟩ := hI
  refine sr ?_
  obtain ⟨b_8, o_9, e_10, g_11⟩ := (hT.u.mono le_6).at_ (ne_nil_of_lt hq)
  obtain ⟨c_12, q_13, q_14⟩ := g_11 q hq
  refine ix2 Tryz.runUnderlying37 Tryz.sizeOf65 rfl e_10 rfl rfl hq rfl ?_
  refine la (Says.fz q_13) Tryz.isAgg65 Tryz.sizeOf65 rfl (Nat.add_zero _).symm rfl rfl ?_
  refine al Tryz.zeroValue65 rfl rfl (fun b_15 => ?_)
  refine sa Tryz.sizeOf65 rfl rfl rfl rfl rfl .head ?_
  refine nl ?_
  refine rg ?_
  refine fa0 F90_2 rfl rfl ?_
  refine fa0 F65_0 rfl rfl ?_
  refine ld (Says.own .head) Tryz.isAgg62 rfl (Nat.zero_add _).symm rfl rfl ?_
  refine fa0 F65_1 rfl rfl ?_
  refine ld (Says.own .head) Tryz.isAgg22 rfl (Nat.zero_add _).symm rfl rfl ?_
  refine tf (.tail (.tail .head)) ?_
  refine tf (.tail (.tail .head)) ?_
  refine cl rfl rfl rfl (t_set (cs := [.int .i32 (IntKind.i32.wrap (T.at 0).n), .int .i64 (T.at 1).n, .map m]) (off := 2) pq0 rfl) rfl (fun v H1 L1 hle hR => ?_)
  obtain ⟨rfl, g27, cs27, hs27, rfl⟩ := hR
  obtain rfl : [.int .i32 (IntKind.i32.wrap (T.at 0).n), .int .i64 (T.at 1).n, .map (some g27)] = cs27 := Option.some.inj hs27
  refine nN ?_
  refine Nb ?_
  refine drN (.tail (.tail .head)) ?_
  refine fun a_ w_ hA hw => ⟨_, _, _, hA.sub ?_, le_6, hw, _, rfl, _, _, [(g27, _)], rfl, rfl, (.inr ⟨g27, rfl, rfl⟩), (KvTo.put hf.u (List.getElem?_eq_getElem hq) pq1 (⟨⟨_, _, rfl, q_14.val⟩, q_14.lo, q_14.hi⟩)), (.inr (Nat.succ_pos _))⟩
  exact (.of ⟨rfl, rfl, rfl, rfl, rfl, trivial⟩)
 ·
  obtain ⟨m, kvs, M, rfl, rfl, pq0, pq1, pq2⟩ := hI
  refine toWp ?_
  rw [List.take_length] at pq1
  refine frMW pq0 .head (fun H3 hle3 hmf => ?_)
  have hft : KvAtN _ m T.u := ⟨KvTo.at_ hf.u (pq1.mono hle3) hmf, fun h => by rw [h] at pq2; rcases pq2 with h2 | h2; exact h2; exact absurd h2 (by simp)⟩
  refine sr ?_
  refine la (Says.own .head) Tryz.isAgg90 Tryz.sizeOf90 rfl (Nat.zero_add _).symm rfl rfl ?_
  refine sa Tryz.sizeOf90 rfl rfl rfl rfl rfl (.tail .head) ?_
  refine nl ?_
  refine drW .head ?_
  refine drW (.tail .head) ?_
  exact rC rfl Tryz.isAgg90 Tryz.sizeOf90 rfl .head rfl (le_7.trans hle3) (fun _ _ h => h) ⟨rfl, _, rfl, ⟨m, rfl, hft⟩⟩
theorem make_FetchResponseTopicPartitionCurrentLeader {H : Fz} {L : Own} {c : TC} {T : Tr} (hT : TreeAt H c T) (hf : Fine T) :
  Fn Tryz.prog 87 [.agg (c.cells T).toArray] H L (fun v H' L' => L = L' ∧ ∃ cs : List Value, v = .agg cs.toArray ∧ At_FetchResponseTopicPartitionCurrentLeader H' T cs) := by
 refine Fn.mk Tryz.call87 Tryz.func87 rfl Tryz.ntmps87 rfl ?_
 refine sr ?_
 refine bx rfl rfl rfl (fun b_1 => ?_)
 refine al Tryz.zeroValue92 rfl rfl (fun b_2 => ?_)
 refine nl ?_
 refine sr ?_
 refine al Tryz.zeroValue92 rfl rfl (fun b_3 => ?_)
 refine nl ?_
 refine sr ?_
 refine la (Says.own (.tail (.tail .head))) Tryz.isAgg39 Tryz.sizeOf39 rfl (Nat.zero_add _).symm rfl rfl ?_
 refine cl rfl rfl rfl (m_at (i := 0) hT) rfl (fun v H1 L1 hle hR => ?_)
 obtain ⟨rfl, rfl, c7, rfl, g7⟩ := hR
 refine fc C39_0 rfl rfl rfl ?_
 refine cv Tryz.runUnderlying2 Tryz.runUnderlying21 rfl rfl rfl ?_
 refine fa0 F92_0 rfl rfl ?_
 refine st Tryz.sizeOf21 rfl rfl rfl rfl .head ?_
 refine nl ?_
 refine sr ?_
 refine la (Says.own (.tail (.tail .head))) Tryz.isAgg39 Tryz.sizeOf39 rfl (Nat.zero_add _).symm rfl rfl ?_
 refine cl rfl rfl rfl (m_at (i := 1) hT) rfl (fun v H1 L1 hle hR => ?_)
 obtain ⟨rfl, rfl, c12, rfl, g12⟩ := hR
 refine fc C39_0 rfl rfl rfl ?_
 refine cv Tryz.runUnderlying2 Tryz.runUnderlying21 rfl rfl rfl ?_
 refine fa0 F92_1 rfl rfl ?_
 refine st Tryz.sizeOf21 rfl rfl rfl rfl .head ?_
 refine nl ?_
 refine sq ?_
 refine sr ?_
 refine fa0 F39_4 rfl rfl ?_
 refine ld (Says.own (.tail (.tail .head))) Tryz.isAgg37 rfl (Nat.zero_add _).symm rfl rfl ?_
 refine ls Tryz.runUnderlying37 rfl rfl ?_
 refine mv rfl rfl ?_
 refine nl ?_
 refine nulC2 ?_
 have hun := hf.un
 refine fr (T.u.length) (fun q l' H' L' => ∃ (m : Option Nat), ∃ (kvs : List KV), ∃ (M : Chunk), [(2, .pointer (some ⟨b_2, 0, none⟩)), (3, .pointer (some ⟨b_3, 0, none⟩)), (17, .slice c.ua T.u.length c.uc), (18, .int .i64 (T.u.length : Int))] = l' ∧ M :: [(b_3, .cells [.int .i32 (IntKind.i32.wrap (T.at 0).n), .int .i32 (IntKind.i32.wrap (T.at 1).n), .map m].toArray 92 (0, 0))] :: [(b_2, .cells [.int .i32 0, .int .i32 0, .map none].toArray 92 (0, 0))] :: [(b_1, .cells (c.cells T).toArray 39 (0, 0))] :: L = L' ∧ MapC m kvs M ∧ KvTo H' (T.u.take q) kvs ∧ (m = none ∨ 0 < q)) [(2, .pointer (some ⟨b_2, 0, none⟩)), (3, .pointer (some ⟨b_3, 0, none⟩)), (17, .slice c.ua T.u.length c.uc), (18, .int .i64 (T.u.length : Int))] (fun q l' H' L' h => ?_) (by omega) rfl (.of ⟨rfl, rfl, rfl, rfl, trivial⟩) ⟨none, [], [], rfl, rfl, MapC.nil, (KvTo.nil _), (.inl rfl)⟩ rfl rfl rfl rfl rfl (fun q l' H' L' hq le_6 hI => ?_) (fun l' H' L' le_7 hI => ?_)
 · obtain ⟨m, kvs, M, rfl, _⟩ := h; exact ⟨rfl, rfl, rfl, rfl⟩
 ·
  obtain ⟨m, kvs, M, rfl, rfl, pq0, pq1, pq2⟩ := hI
  refine sr ?_
  obtain ⟨b_8, o_9, e_10, g_11⟩ := (hT.u.mono le_6).at_ (ne_nil_of_lt hq)
  obtain ⟨c_12, q_13, q_14⟩ := g_11 q hq
  refine ix2 Tryz.runUnderlying37 Tryz.sizeOf65 rfl e_10 rfl rfl hq rfl ?_
  refine la (Says.fz q_13) Tryz.isAgg65 Tryz.sizeOf65 rfl (Nat.add_zero _).symm rfl rfl ?_
  refine al Tryz.zeroValue65 rfl rfl (fun b_15 => ?_)
  refine sa Tryz.sizeOf65 rfl rfl rfl rfl rfl .head ?_
  refine nl ?_
  refine rg ?_
  refine fa0 F92_2 rfl rfl ?_
  refine fa0 F65_0 rfl rfl ?_
  refine ld (Says.own .head) Tryz.isAgg62 rfl (Nat.zero_add _).symm rfl rfl ?_
  refine fa0 F65_1 rfl rfl ?_
  refine ld (Says.own .head) Tryz.isAgg22 rfl (Nat.zero_add _).symm rfl rfl ?_
  refine tf (.tail (.tail .head)) ?_
  refine tf (.tail (.tail .head)) ?_
  refine cl rfl rfl rfl (t_set (cs := [.int .i32 (IntKind.i32.wrap (T.at 0).n), .int .i32 (IntKind.i32.wrap (T.at 1).n), .map m]) (off := 2) pq0 rfl) rfl (fun v H1 L1 hle hR => ?_)
  obtain ⟨rfl, g28, cs28, hs28, rfl⟩ := hR
  obtain rfl : [.int .i32 (IntKind.i32.wrap (T.at 0).n), .int .i32 (IntKind.i32.wrap (T.at 1).n), .map (some g28)] = cs28 := Option.some.inj hs28
  refine nN ?_
  refine Nb ?_
  refine drN (.tail (.tail .head)) ?_
  refine fun a_ w_ hA hw => ⟨_, _, _, hA.sub ?_, le_6, hw, _, rfl, _, _, [(g28, _)], rfl, rfl, (.inr ⟨g28, rfl, rfl⟩), (KvTo.put hf.u (List.getElem?_eq_getElem hq) pq1 (⟨⟨_, _, rfl, q_14.val⟩, q_14.lo, q_14.hi⟩)), (.inr (Nat.succ_pos _))⟩
  exact (.of ⟨rfl, rfl, rfl, rfl, rfl, trivial⟩)
 ·
  obtain ⟨m, kvs, M, rfl, rfl, pq0, pq1, pq2⟩ := hI
  refine toWp ?_
  rw [List.take_length] at pq1
  refine frMW pq0 .head (fun H3 hle3 hmf => ?_)
  have hft : KvAtN _ m T.u := ⟨KvTo.at_ hf.u (pq1.mono hle3) hmf, fun h => by rw [h] at pq2; rcases pq2 with h2 | h2; exact h2; exact absurd h2 (by simp)⟩
  refine sr ?_
  refine la (Says.own .head) Tryz.isAgg92 Tryz.sizeOf92 rfl (Nat.zero_add _).symm rfl rfl ?_
  refine sa Tryz.sizeOf92 rfl rfl rfl rfl rfl (.tail .head) ?_
  refine nl ?_
  refine drW .head ?_
  refine drW (.tail .head) ?_
  exact rC rfl Tryz.isAgg92 Tryz.sizeOf92 rfl .head rfl (le_7.trans hle3) (fun _ _ h => h) ⟨rfl, _, rfl, ⟨m, rfl, hft⟩⟩
theorem make_FetchResponseTopicPartitionSnapshotID {H : Fz} {L : Own} {c : TC} {T : Tr} (hT : TreeAt H c T) (hf : Fine T) :
  Fn Tryz.prog 88 [.agg (c.cells T).toArray] H L (fun v H' L' => L = L' ∧ ∃ cs : List Value, v = .agg cs.toArray ∧ At_FetchResponseTopicPartitionSnapshotID H' T cs) := by
 refine Fn.mk Tryz.call88 Tryz.func88 rfl Tryz.ntmps88 rfl ?_
 refine sr ?_
 refine bx rfl rfl rfl (fun b_1 => ?_)
 refine al Tryz.zeroValue94 rfl rfl (fun b_2 => ?_)
 refine nl ?_
 refine sr ?_
 refine al Tryz.zeroValue94 rfl rfl (fun b_3 => ?_)
 refine nl ?_
 refine sr ?_
 refine la (Says.own (.tail (.tail .head))) Tryz.isAgg39 Tryz.sizeOf39 rfl (Nat.zero_add _).symm rfl rfl ?_
 refine cl rfl rfl rfl (m_at (i := 0) hT) rfl (fun v H1 L1 hle hR => ?_)
 obtain ⟨rfl, rfl, c7, rfl, g7⟩ := hR
 refine fc C39_0 rfl rfl rfl ?_
 refine fa0 F94_0 rfl rfl ?_
 refine st Tryz.sizeOf2 rfl rfl rfl rfl .head ?_
 refine nl ?_
 refine sr ?_
 refine la (Says.own (.tail (.tail .head))) Tryz.isAgg39 Tryz.sizeOf39 rfl (Nat.zero_add _).symm rfl rfl ?_
 refine cl rfl rfl rfl (m_at (i := 1) hT) rfl (fun v H1 L1 hle hR => ?_)
 obtain ⟨rfl, rfl, c11, rfl, g11⟩ := hR
 refine fc C39_0 rfl rfl rfl ?_
 refine cv Tryz.runUnderlying2 Tryz.runUnderlying21 rfl rfl rfl ?_
 refine fa0 F94_1 rfl rfl ?_
 refine st Tryz.sizeOf21 rfl rfl rfl rfl .head ?_
 refine nl ?_
 refine sq ?_
 refine sr ?_
 refine fa0 F39_4 rfl rfl ?_
 refine ld (Says.own (.tail (.tail .head))) Tryz.isAgg37 rfl (Nat.zero_add _).symm rfl rfl ?_
 refine ls Tryz.runUnderlying37 rfl rfl ?_
 refine mv rfl rfl ?_
 refine nl ?_
 refine nulC2 ?_
 have hun := hf.un
 refine fr (T.u.length) (fun q l' H' L' => ∃ (m : Option Nat), ∃ (kvs : List KV), ∃ (M : Chunk), [(2, .pointer (some ⟨b_2, 0, none⟩)), (3, .pointer (some ⟨b_3, 0, none⟩)), (16, .slice c.ua T.u.length c.uc), (17, .int .i64 (T.u.length : Int))] = l' ∧ M :: [(b_3, .cells [.int .i64 (T.at 0).n, .int .i32 (IntKind.i32.wrap (T.at 1).n), .map m].toArray 94 (0, 0))] :: [(b_2, .cells [.int .i64 0, .int .i32 0, .map none].toArray 94 (0, 0))] :: [(b_1, .cells (c.cells T).toArray 39 (0, 0))] :: L = L' ∧ MapC m kvs M ∧ KvTo H' (T.u.take q) kvs ∧ (m = none ∨ 0 < q)) [(2, .pointer (some ⟨b_2, 0, none⟩)), (3, .pointer (some ⟨b_3, 0, none⟩)), (16, .slice c.ua T.u.length c.uc), (17, .int .i64 (T.u.length : Int))] (fun q l' H' L' h => ?_) (by omega) rfl (.of ⟨rfl, rfl, rfl, rfl, trivial⟩) ⟨none, [], [], rfl, rfl, MapC.nil, (KvTo.nil _), (.inl rfl)⟩ rfl rfl rfl rfl rfl (fun q l' H' L' hq le_6 hI => ?_) (fun l' H' L' le_7 hI => ?_)
 · obtain ⟨m, kvs, M, rfl, _⟩ := h; exact ⟨rfl, rfl, rfl, rfl⟩
 ·
  obtain ⟨m, kvs, M, rfl, rfl, pq0, pq1, pq2⟩ := hI
  refine sr ?_
  obtain ⟨b_8, o_9, e_10, g_11⟩ := (hT.u.mono le_6).at_ (ne_nil_of_lt hq)
  obtain ⟨c_12, q_13, q_14⟩ := g_11 q hq
  refine ix2 Tryz.runUnderlying37 Tryz.sizeOf65 rfl e_10 rfl rfl hq rfl ?_
  refine la (Says.fz q_13) Tryz.isAgg65 Tryz.sizeOf65 rfl (Nat.add_zero _).symm rfl rfl ?_
  refine al Tryz.zeroValue65 rfl rfl (fun b_15 => ?_)
  refine sa Tryz.sizeOf65 rfl rfl rfl rfl rfl .head ?_
  refine nl ?_
  refine rg ?_
  refine fa0 F94_2 rfl rfl ?_
  refine fa0 F65_0 rfl rfl ?_
  refine ld (Says.own .head) Tryz.isAgg62 rfl (Nat.zero_add _).symm rfl rfl ?_
  refine fa0 F65_1 rfl rfl ?_
  refine ld (Says.own .head) Tryz.isAgg22 rfl (Nat.zero_add _).symm rfl rfl ?_
  refine tf (.tail (.tail .head)) ?_
  refine tf (.tail (.tail .head)) ?_
  refine cl rfl rfl rfl (t_set (cs := [.int .i64 (T.at 0).n, .int .i32 (IntKind.i32.wrap (T.at 1).n), .map m]) (off := 2) pq0 rfl) rfl (fun v H1 L1 hle hR => ?_)
  obtain ⟨rfl, g27, cs27, hs27, rfl⟩ := hR
  obtain rfl : [.int .i64 (T.at 0).n, .int .i32 (IntKind.i32.wrap (T.at 1).n), .map (some g27)] = cs27 := Option.some.inj hs27
  refine nN ?_
  refine Nb ?_
  refine drN (.tail (.tail .head)) ?_
  refine fun a_ w_ hA hw => ⟨_, _, _, hA.sub ?_, le_6, hw, _, rfl, _, _, [(g27, _)], rfl, rfl, (.inr ⟨g27, rfl, rfl⟩), (KvTo.put hf.u (List.getElem?_eq_getElem hq) pq1 (⟨⟨_, _, rfl, q_14.val⟩, q_14.lo, q_14.hi⟩)), (.inr (Nat.succ_pos _))⟩
  exact (.of ⟨rfl, rfl, rfl, rfl, rfl, trivial⟩)
 ·
  obtain ⟨m, kvs, M, rfl, rfl, pq0, pq1, pq2⟩ := hI
  refine toWp ?_
  rw [List.take_length] at pq1
  refine frMW pq0 .head (fun H3 hle3 hmf => ?_)
  have hft : KvAtN _ m T.u := ⟨KvTo.at_ hf.u (pq1.mono hle3) hmf, fun h => by rw [h] at pq2; rcases pq2 with h2 | h2; exact h2; exact absurd h2 (by simp)⟩
  refine sr ?_
  refine la (Says.own .head) Tryz.isAgg94 Tryz.sizeOf94 rfl (Nat.zero_add _).symm rfl rfl ?_
  refine sa Tryz.sizeOf94 rfl rfl rfl rfl rfl (.tail .head) ?_
  refine nl ?_
  refine drW .head ?_
  refine drW (.tail .head) ?_
  exact rC rfl Tryz.isAgg94 Tryz.sizeOf94 rfl .head rfl (le_7.trans hle3) (fun _ _ h => h) ⟨rfl, _, rfl, ⟨m, rfl, hft⟩⟩
theorem make_FetchResponseTopicPartitionAbortedTransaction {H : Fz} {L : Own} {c : TC} {T : Tr} (hT : TreeAt H c T) (hf : Fine T) :
  Fn Tryz.prog 89 [.agg (c.cells T).toArray] H L (fun v H' L' => L = L' ∧ ∃ cs : List Value, v = .agg cs.toArray ∧ At_FetchResponseTopicPartitionAbortedTransaction H' T cs) := by
 refine Fn.mk Tryz.call89 Tryz.func89 rfl Tryz.ntmps89 rfl ?_
 refine sr ?_
 refine bx rfl rfl rfl (fun b_1 => ?_)
 refine al Tryz.zeroValue102 rfl rfl (fun b_2 => ?_)
 refine nl ?_
 refine sr ?_
 refine al Tryz.zeroValue102 rfl rfl (fun b_3 => ?_)
 refine nl ?_
 refine sr ?_
 refine la (Says.own (.tail (.tail .head))) Tryz.isAgg39 Tryz.sizeOf39 rfl (Nat.zero_add _).symm rfl rfl ?_
 refine cl rfl rfl rfl (m_at (i := 0) hT) rfl (fun v H1 L1 hle hR => ?_)
 obtain ⟨rfl, rfl, c7, rfl, g7⟩ := hR
 refine fc C39_0 rfl rfl rfl ?_
 refine fa0 F102_0 rfl rfl ?_
 refine st Tryz.sizeOf2 rfl rfl rfl rfl .head ?_
 refine nl ?_
 refine sr ?_
 refine la (Says.own (.tail (.tail .head))) Tryz.isAgg39 Tryz.sizeOf39 rfl (Nat.zero_add _).symm rfl rfl ?_
 refine cl rfl rfl rfl (m_at (i := 1) hT) rfl (fun v H1 L1 hle hR => ?_)
 obtain ⟨rfl, rfl, c11, rfl, g11⟩ := hR
 refine fc C39_0 rfl rfl rfl ?_
 refine fa0 F102_1 rfl rfl ?_
 refine st Tryz.sizeOf2 rfl rfl rfl rfl .head ?_
 refine nl ?_
 refine sq ?_
 refine sr ?_
 refine fa0 F39_4 rfl rfl ?_
 refine ld (Says.own (.tail (.tail .head))) Tryz.isAgg37 rfl (Nat.zero_add _).symm rfl rfl ?_
 refine ls Tryz.runUnderlying37 rfl rfl ?_
 refine mv rfl rfl ?_
 refine nl ?_
 refine nulC2 ?_
 have hun := hf.un
 refine fr (T.u.length) (fun q l' H' L' => ∃ (m : Option Nat), ∃ (kvs : List KV), ∃ (M : Chunk), [(2, .pointer (some ⟨b_2, 0, none⟩)), (3, .pointer (some ⟨b_3, 0, none⟩)), (15, .slice c.ua T.u.length c.uc), (16, .int .i64 (T.u.length : Int))] = l' ∧ M :: [(b_3, .cells [.int .i64 (T.at 0).n, .int .i64 (T.at 1).n, .map m].toArray 102 (0, 0))] :: [(b_2, .cells [.int .i64 0, .int .i64 0, .map none].toArray 102 (0, 0))] :: [(b_1, .cells (c.cells T).toArray 39 (0, 0))] :: L = L' ∧ MapC m kvs M ∧ KvTo H' (T.u.take q) kvs ∧ (m = none ∨ 0 < q)) [(2, .pointer (some ⟨b_2, 0, none⟩)), (3, .pointer (some ⟨b_3, 0, none⟩)), (15, .slice c.ua T.u.length c.uc), (16, .int .i64 (T.u.length : Int))] (fun q l' H' L' h => ?_) (by omega) rfl (.of ⟨rfl, rfl, rfl, rfl, trivial⟩) ⟨none, [], [], rfl, rfl, MapC.nil, (KvTo.nil _), (.inl rfl)⟩ rfl rfl rfl rfl rfl (fun q l' H' L' hq le_6 hI => ?_) (fun l' H' L' le_7 hI => ?_)
 · obtain ⟨m, kvs, M, rfl, _⟩ := h; exact ⟨rfl, rfl, rfl, rfl⟩
 ·
  obtain ⟨m, kvs, M, rfl, rfl, pq0, pq1, pq2⟩ := hI
  refine sr ?_
  obtain ⟨b_8, o_9, e_10, g_11⟩ := (hT.u.mono le_6).at_ (ne_nil_of_lt hq)
  obtain ⟨c_12, q_13, q_14⟩ := g_11 q hq
  refine ix2 Tryz.runUnderlying37 Tryz.sizeOf65 rfl e_10 rfl rfl hq rfl ?_
  refine la (Says.fz q_13) Tryz.isAgg65 Tryz.sizeOf65 rfl (Nat.add_zero _).symm rfl rfl ?_
  refine al Tryz.zeroValue65 rfl rfl (fun b_15 => ?_)
  refine sa Tryz.sizeOf65 rfl rfl rfl rfl rfl .head ?_
  refine nl ?_
  refine rg ?_
  refine fa0 F102_2 rfl rfl ?_
  refine fa0 F65_0 rfl rfl ?_
  refine ld (Says.own .head) Tryz.isAgg62 rfl (Nat.zero_add _).symm rfl rfl ?_
  refine fa0 F65_1 rfl rfl ?_
  refine ld (Says.own .head) Tryz.isAgg22 rfl (Nat.zero_add _).symm rfl rfl ?_
  refine tf (.tail (.tail .head)) ?_
  refine tf (.tail (.tail .head)) ?_
  refine cl rfl rfl rfl (t_set (cs := [.int .i64 (T.at 0).n, .int .i64 (T.at 1).n, .map m]) (off := 2) pq0 rfl) rfl (fun v H1 L1 hle hR => ?_)
  obtain ⟨rfl, g26, cs26, hs26, rfl⟩ := hR
  obtain rfl : [.int .i64 (T.at 0).n, .int .i64 (T.at 1).n, .map (some g26)] = cs26 := Option.some.inj hs26
  refine nN ?_
  refine Nb ?_
  refine drN (.tail (.tail .head)) ?_
  refine fun a_ w_ hA hw => ⟨_, _, _, hA.sub ?_, le_6, hw, _, rfl, _, _, [(g26, _)], rfl, rfl, (.inr ⟨g26, rfl, rfl⟩), (KvTo.put hf.u (List.getElem?_eq_getElem hq) pq1 (⟨⟨_, _, rfl, q_14.val⟩, q_14.lo, q_14.hi⟩)), (.inr (Nat.succ_pos _))⟩
  exact (.of ⟨rfl, rfl, rfl, rfl, rfl, trivial⟩)
 ·
  obtain ⟨m, kvs, M, rfl, rfl, pq0, pq1, pq2⟩ := hI
  refine toWp ?_
  rw [List.take_length] at pq1
  refine frMW pq0 .head (fun H3 hle3 hmf => ?_)
  have hft : KvAtN _ m T.u := ⟨KvTo.at_ hf.u (pq1.mono hle3) hmf, fun h => by rw [h] at pq2; rcases pq2 with h2 | h2; exact h2; exact absurd h2 (by simp)⟩
  refine sr ?_
  refine la (Says.own .head) Tryz.isAgg102 Tryz.sizeOf102 rfl (Nat.zero_add _).symm rfl rfl ?_
  refine sa Tryz.sizeOf102 rfl rfl rfl rfl rfl (.tail .head) ?_
  refine nl ?_
  refine drW .head ?_
  refine drW (.tail .head) ?_
  exact rC rfl Tryz.isAgg102 Tryz.sizeOf102 rfl .head rfl (le_7.trans hle3) (fun _ _ h => h) ⟨rfl, _, rfl, ⟨m, rfl, hft⟩⟩
theorem make_FetchResponseTopicPartition {H : Fz} {L : Own} {c : TC} {T : Tr} (hT : TreeAt H c T) (hf : Fine T) :
  Fn Tryz.prog 71 [.agg (c.cells T).toArray] H L (fun v H' L' => L = L' ∧ ∃ cs : List Value, v = .agg cs.toArray ∧ At_FetchResponseTopicPartition H' T cs) := by
 refine Fn.mk Tryz.call71 Tryz.func71 rfl Tryz.ntmps71 rfl ?_
 refine sr ?_
 refine bx rfl rfl rfl (fun b_1 => ?_)
 refine al Tryz.zeroValue97 rfl rfl (fun b_2 => ?_)
 refine nl ?_
 refine sr ?_
 refine al Tryz.zeroValue97 rfl rfl (fun b_3 => ?_)
 refine nl ?_
 refine sr ?_
 refine la (Says.own (.tail (.tail .head))) Tryz.isAgg39 Tryz.sizeOf39 rfl (Nat.zero_add _).symm rfl rfl ?_
 refine cl rfl rfl rfl (m_at (i := 0) hT) rfl (fun v H1 L1 hle hR => ?_)
 obtain ⟨rfl, rfl, c9, rfl, g9⟩ := hR
 refine fc C39_0 rfl rfl rfl ?_
 refine cv Tryz.runUnderlying2 Tryz.runUnderlying21 rfl rfl rfl ?_
 refine fa0 F97_0 rfl rfl ?_
 refine st Tryz.sizeOf21 rfl rfl rfl rfl .head ?_
 refine nl ?_
 refine sr ?_
 refine la (Says.own (.tail (.tail .head))) Tryz.isAgg39 Tryz.sizeOf39 rfl (Nat.zero_add _).symm rfl rfl ?_
 refine cl rfl rfl rfl (m_at (i := 1) hT) rfl (fun v H1 L1 hle hR => ?_)
 obtain ⟨rfl, rfl, c14, rfl, g14⟩ := hR
 refine fc C39_0 rfl rfl rfl ?_
 refine cv Tryz.runUnderlying2 Tryz.runUnderlying45 rfl rfl rfl ?_
 refine fa0 F97_1 rfl rfl ?_
 refine st Tryz.sizeOf45 rfl rfl rfl rfl .head ?_
 refine nl ?_
 refine sr ?_
 refine la (Says.own (.tail (.tail .head))) Tryz.isAgg39 Tryz.sizeOf39 rfl (Nat.zero_add _).symm rfl rfl ?_
 refine cl rfl rfl rfl (m_at (i := 2) hT) rfl (fun v H1 L1 hle hR => ?_)
 obtain ⟨rfl, rfl, c19, rfl, g19⟩ := hR
 refine fc C39_0 rfl rfl rfl ?_
 refine fa0 F97_2 rfl rfl ?_
 refine st Tryz.sizeOf2 rfl rfl rfl rfl .head ?_
 refine nl ?_
 refine sr ?_
 refine la (Says.own (.tail (.tail .head))) Tryz.isAgg39 Tryz.sizeOf39 rfl (Nat.zero_add _).symm rfl rfl ?_
 refine cl rfl rfl rfl (m_at (i := 3) hT) rfl (fun v H1 L1 hle hR => ?_)
 obtain ⟨rfl, rfl, c23, rfl, g23⟩ := hR
 refine fc C39_0 rfl rfl rfl ?_
 refine fa0 F97_3 rfl rfl ?_
 refine st Tryz.sizeOf2 rfl rfl rfl rfl .head ?_
 refine nl ?_
 refine sr ?_
 refine la (Says.own (.tail (.tail .head))) Tryz.isAgg39 Tryz.sizeOf39 rfl (Nat.zero_add _).symm rfl rfl ?_
 refine cl rfl rfl rfl (m_at (i := 4) hT) rfl (fun v H1 L1 hle hR => ?_)
 obtain ⟨rfl, rfl, c27, rfl, g27⟩ := hR
 refine fc C39_0 rfl rfl rfl ?_
 refine fa0 F97_4 rfl rfl ?_
 refine st Tryz.sizeOf2 rfl rfl rfl rfl .head ?_
 refine nl ?_
 refine sr ?_
 refine la (Says.own (.tail (.tail .head))) Tryz.isAgg39 Tryz.sizeOf39 rfl (Nat.zero_add _).symm rfl rfl ?_
 refine cl rfl rfl rfl (m_at (i := 5) hT) rfl (fun v H1 L1 hle hR => ?_)
 obtain ⟨rfl, rfl, c31, rfl, g31⟩ := hR
 refine cl rfl rfl rfl (make_FetchResponseTopicPartitionDivergingEpoch g31 (hf.at 5)) rfl (fun v H1 L1 le_10 hR => ?_)
 obtain ⟨rfl, cs32, rfl, g32⟩ := hR
 obtain ⟨m5_t, rfl, hf5_0⟩ := g32
 refine fa0 F97_5 rfl rfl ?_
 refine sa Tryz.sizeOf90 rfl rfl rfl rfl rfl .head ?_
 refine nl ?_
 refine sr ?_
 refine la (Says.own (.tail (.tail .head))) Tryz.isAgg39 Tryz.sizeOf39 rfl (Nat.zero_add _).symm rfl rfl ?_
 refine cl rfl rfl rfl (m_at (i := 6) (hT.mono le_10)) rfl (fun v H1 L1 hle hR => ?_)
 obtain ⟨rfl, rfl, c35, rfl, g35⟩ := hR
 refine cl rfl rfl rfl (make_FetchResponseTopicPartitionCurrentLeader g35 (hf.at 6)) rfl (fun v H1 L1 le_12 hR => ?_)
 obtain ⟨rfl, cs36, rfl, g36⟩ := hR
 obtain ⟨m6_t, rfl, hf6_0⟩ := g36
 refine fa0 F97_6 rfl rfl ?_
 refine sa Tryz.sizeOf92 rfl rfl rfl rfl rfl .head ?_
 refine nl ?_
 refine sr ?_
 refine la (Says.own (.tail (.tail .head))) Tryz.isAgg39 Tryz.sizeOf39 rfl (Nat.zero_add _).symm rfl rfl ?_
 refine cl rfl rfl rfl (m_at (i := 7) (hT.mono (le_10.trans le_12))) rfl (fun v H1 L1 hle hR => ?_)
 obtain ⟨rfl, rfl, c39, rfl, g39⟩ := hR
 refine cl rfl rfl rfl (make_FetchResponseTopicPartitionSnapshotID g39 (hf.at 7)) rfl (fun v H1 L1 le_14 hR => ?_)
 obtain ⟨rfl, cs40, rfl, g40⟩ := hR
 obtain ⟨m7_t, rfl, hf7_0⟩ := g40
 refine fa0 F97_7 rfl rfl ?_
 refine sa Tryz.sizeOf94 rfl rfl rfl rfl rfl .head ?_
 refine nl ?_
 refine sq ?_
 refine sr ?_
 refine la (Says.own (.tail (.tail .head))) Tryz.isAgg39 Tryz.sizeOf39 rfl (Nat.zero_add _).symm rfl rfl ?_
 refine cl rfl rfl rfl (m_at (i := 8) (hT.mono (le_10.trans (le_12.trans le_14)))) rfl (fun v H1 L1 hle hR => ?_)
 obtain ⟨rfl, rfl, c43, rfl, g43⟩ := hR
 refine fc C39_2 rfl rfl rfl ?_
 refine nt rfl rfl ?_
 refine nl ?_
 refine cutT (fun l' H' L' => ∃ (a8 : Option Addr), ∃ (n8 : Nat), ∃ (c8 : Nat), [(1, .pointer (some ⟨b_1, 0, none⟩)), (2, .pointer (some ⟨b_2, 0, none⟩)), (3, .pointer (some ⟨b_3, 0, none⟩))] = l' ∧ [(b_3, .cells [.int .i32 (IntKind.i32.wrap (T.at 0).n), .int .i16 (IntKind.i16.wrap (T.at 1).n), .int .i64 (T.at 2).n, .int .i64 (T.at 3).n, .int .i64 (T.at 4).n, .int .i32 (IntKind.i32.wrap ((T.at 5).at 0).n), .int .i64 ((T.at 5).at 1).n, .map m5_t, .int .i32 (IntKind.i32.wrap ((T.at 6).at 0).n), .int .i32 (IntKind.i32.wrap ((T.at 6).at 1).n), .map m6_t, .int .i64 ((T.at 7).at 0).n, .int .i32 (IntKind.i32.wrap ((T.at 7).at 1).n), .map m7_t, .slice a8 n8 c8, .int .i32 0, .slice none 0 0, .map none].toArray 97 (0, 0))] :: [(b_2, .cells [.int .i32 0, .int .i16 0, .int .i64 0, .int .i64 0, .int .i64 0, .int .i32 0, .int .i64 0, .map none, .int .i32 0, .int .i32 0, .map none, .int .i64 0, .int .i32 0, .map none, .slice none 0 0, .int .i32 0, .slice none 0 0, .map none].toArray 97 (0, 0))] :: [(b_1, .cells (c.cells T).toArray 39 (0, 0))] :: L = L' ∧ n8 = (lT (T.at 8)).length ∧ ListAt H' (T.at 8) 3 At_FetchResponseTopicPartitionAbortedTransaction a8 c8) ?_ (fun l' H' L' le_16 hI => ?_)
 ·
  refine cb rfl (fun h45 => ?_) (fun h45 => ?_)
  ·
   have hnu : (T.at 8).nul = false := by simpa using h45
   have hlt : lT (T.at 8) = (T.at 8).l := lT_not hnu
   have hfl := (hf.at 8).len
   refine sr ?_
   refine la (Says.own (.tail (.tail .head))) Tryz.isAgg39 Tryz.sizeOf39 rfl (Nat.zero_add _).symm rfl rfl ?_
   refine cl rfl rfl rfl (m_at (i := 8) (hT.mono (le_10.trans (le_12.trans le_14)))) rfl (fun v H1 L1 hle hR => ?_)
   obtain ⟨rfl, rfl, c47, rfl, g47⟩ := hR
   refine fc C39_3 rfl rfl rfl ?_
   refine ls Tryz.runUnderlying36 rfl rfl ?_
   refine mks (m := 0) (c := (T.at 8).l.length) (zs := [.int .i64 0, .int .i64 0, .map none]) Tryz.underlying95 I102 rfl rfl rfl rfl rfl (by omega) (by omega) (by unfold maxLen; omega) rfl (fun bm50 N50 r50 => ?_)
   refine fa0 F97_8 rfl rfl ?_
   refine st Tryz.sizeOf95 rfl rfl rfl rfl (.tail .head) ?_
   refine nl ?_
   refine sr ?_
   refine la (Says.own (.tail (.tail (.tail .head)))) Tryz.isAgg39 Tryz.sizeOf39 rfl (Nat.zero_add _).symm rfl rfl ?_
   refine cl rfl rfl rfl (m_at (i := 8) (hT.mono (le_10.trans (le_12.trans le_14)))) rfl (fun v H1 L1 hle hR => ?_)
   obtain ⟨rfl, rfl, c53, rfl, g53⟩ := hR
   refine fc C39_3 rfl rfl rfl ?_
   refine ls Tryz.runUnderlying36 rfl rfl ?_
   refine mv rfl rfl ?_
   refine nl ?_
   refine fr ((T.at 8).l.length) (fun k l' H' L' => ∃ (a : Option Addr), ∃ (m : Nat), ∃ (c_ : Nat), ∃ (es : List (KE 3)), ∃ (N : Chunk), [(1, .pointer (some ⟨b_1, 0, none⟩)), (2, .pointer (some ⟨b_2, 0, none⟩)), (3, .pointer (some ⟨b_3, 0, none⟩)), (54, .slice c53.la (T.at 8).l.length c53.lc), (55, .int .i64 ((T.at 8).l.length : Int))] = l' ∧ N :: [(b_3, .cells [.int .i32 (IntKind.i32.wrap (T.at 0).n), .int .i16 (IntKind.i16.wrap (T.at 1).n), .int .i64 (T.at 2).n, .int .i64 (T.at 3).n, .int .i64 (T.at 4).n, .int .i32 (IntKind.i32.wrap ((T.at 5).at 0).n), .int .i64 ((T.at 5).at 1).n, .map m5_t, .int .i32 (IntKind.i32.wrap ((T.at 6).at 0).n), .int .i32 (IntKind.i32.wrap ((T.at 6).at 1).n), .map m6_t, .int .i64 ((T.at 7).at 0).n, .int .i32 (IntKind.i32.wrap ((T.at 7).at 1).n), .map m7_t, .slice a m c_, .int .i32 0, .slice none 0 0, .map none].toArray 97 (0, 0))] :: [(b_2, .cells [.int .i32 0, .int .i16 0, .int .i64 0, .int .i64 0, .int .i64 0, .int .i32 0, .int .i64 0, .map none, .int .i32 0, .int .i32 0, .map none, .int .i64 0, .int .i32 0, .map none, .slice none 0 0, .int .i32 0, .slice none 0 0, .map none].toArray 97 (0, 0))] :: [(b_1, .cells (c.cells T).toArray 39 (0, 0))] :: L = L' ∧ Row 102 3 a m c_ (es.flatMap fk) N ∧ m = es.length ∧ (∀ p : KE 3, p ∈ es → At_FetchResponseTopicPartitionAbortedTransaction H' p.2 (fk p)) ∧ es.map (·.2) = ((T.at 8).l.take k).map id ∧ a.isNone = false) [(1, .pointer (some ⟨b_1, 0, none⟩)), (2, .pointer (some ⟨b_2, 0, none⟩)), (3, .pointer (some ⟨b_3, 0, none⟩)), (54, .slice c53.la (T.at 8).l.length c53.lc), (55, .int .i64 ((T.at 8).l.length : Int))] (fun k l' H' L' h => ?_) (by omega) rfl (.of ⟨rfl, rfl, rfl, rfl, rfl, trivial⟩) ⟨some ⟨bm50, 0, none⟩, 0, _, [], N50, rfl, rfl, r50, rfl, (fun p hp => by cases hp), (by simp), rfl⟩ rfl rfl rfl rfl rfl (fun k l' H' L' hk le_19 hI => ?_) (fun l' H' L' le_20 hI => ?_)
   · obtain ⟨a, m, c_, es, N, rfl, _⟩ := h; exact ⟨rfl, rfl, rfl, rfl⟩
   ·
    obtain ⟨a, m, c_, es, N, rfl, rfl, pk0, pk1, pk2, pk3, pk4⟩ := hI
    refine sr ?_
    obtain ⟨b_21, o_22, e_23, g_24⟩ := (g53.l.mono le_19).at_ (ne_nil_of_lt hk)
    obtain ⟨c_25, q_26, q_27⟩ := g_24 k hk
    refine ix2 Tryz.runUnderlying36 Tryz.sizeOf39 rfl e_23 rfl rfl hk rfl ?_
    refine la (Says.fz q_26) Tryz.isAgg39 Tryz.sizeOf39 rfl (Nat.add_zero _).symm rfl rfl ?_
    refine al Tryz.zeroValue39 rfl rfl (fun b_28 => ?_)
    refine sa Tryz.sizeOf39 rfl rfl rfl rfl rfl .head ?_
    refine nl ?_
    refine rgD 7 (.keep (.skip (.keep (.keep (.keep .nil))))) mixed ?_
    refine dU 0 rfl rfl rfl (y_fa0 F97_8 rfl) (.keep (.skip (.keep (.keep (.keep .nil))))) ler ?_
    refine dU 1 rfl rfl rfl (y_ld (Says.own (.tail .head)) Tryz.isAgg95 rfl (Nat.zero_add _).symm rfl) (.keep (.skip (.keep (.keep (.keep .nil))))) ler ?_
    refine dU 2 rfl rfl rfl (y_la (Says.own .head) Tryz.isAgg39 Tryz.sizeOf39 rfl (Nat.zero_add _).symm rfl) (.keep (.skip (.keep (.keep (.keep .nil))))) ler ?_
    refine dE 3 (by kernel_rfl) rfl ?_
    refine cl rfl rfl rfl (make_FetchResponseTopicPartitionAbortedTransaction q_27 ((hf.at 8).el (List.getElem_mem hk))) rfl (fun v H1 L1 le_29 hR => ?_)
    obtain ⟨rfl, cs63, rfl, g63⟩ := hR
    have ho63 := At_FetchResponseTopicPartitionAbortedTransaction.ok g63
    have gg63 := g63
    obtain ⟨mte, rfl, he0⟩ := g63
    refine dN (.keep (.skip (.keep (.keep (.keep .nil))))) le_29 ?_
    refine dE 4 (by kernel_rfl) rfl ?_
    refine bs' L95 rfl rfl rfl rfl (fun b_30 => ?_)
    refine dN (.skip (.keep (.skip (.keep (.keep (.keep .nil)))))) le_29 ?_
    refine dE 5 (by kernel_rfl) rfl ?_
    have hmk : m = k := by have h1 := congrArg List.length pk3; rw [List.length_map, List.length_map, List.length_take] at h1; omega
    refine ap (news := fk ((⟨_, ho63⟩, (T.at 8).l[k]) : KE 3)) Tryz.underlying95 I102 rfl rfl pk0 (fun _ => (.tail (.tail .head))) (src_says Tryz.underlying95 rfl (fun _ => Says.own .head) (fk_one _)) (by omega) (by unfold maxLen; omega) rfl (fun a65 c65 N65 r65 z65 => ?_)
    rw [flatMap_snoc'] at r65
    have hin : a65.isNone = false := by cases a65 with | none => have := z65.1 rfl; omega | some _ => rfl
    refine dN (.skip (.keep (.skip (.keep (.keep (.keep .nil)))))) le_29 ?_
    refine dU 6 rfl rfl rfl (y_fa0 F97_8 rfl) (.skip (.keep (.skip (.keep (.keep (.keep .nil)))))) le_29 ?_
    refine dE 7 (by kernel_rfl) rfl ?_
    refine st Tryz.sizeOf95 rfl rfl rfl rfl (.tail (.tail (.tail .head))) ?_
    refine dNk (by kernel_rfl) ?_
    refine dD (by kernel_rfl) ?_
    refine Nb ?_
    refine drN .head ?_
    refine drN .head ?_
    refine fun a_ w_ hA hw => ⟨_, _, _, hA.sub ?_, (le_19.trans le_29), hw, _, rfl, a65, _, c65, (es ++ [((⟨_, ho63⟩, (T.at 8).l[k]) : KE 3)]), N65, rfl, rfl, r65, (by simp; omega), (fun p hp => (mem_snoc hp).elim (fun h => At_FetchResponseTopicPartitionAbortedTransaction.mono _ _ _ _ le_29 (pk2 p h)) (fun h => h ▸ At_FetchResponseTopicPartitionAbortedTransaction.mono _ _ _ _ ler gg63)), (map_take_snoc hk pk3), hin⟩
    exact (.of ⟨rfl, rfl, rfl, rfl, rfl, rfl, trivial⟩)
   ·
    obtain ⟨a, m, c_, es, N, rfl, rfl, pk0, pk1, pk2, pk3, pk4⟩ := hI
    refine toNn ?_
    have hm : m = (T.at 8).l.length := by have h1 := congrArg List.length pk3; rw [List.length_map, List.length_map, List.take_length] at h1; omega
    have hfe : es.map (·.2) = (T.at 8).l := by rw [pk3, List.take_length, List.map_id]
    refine frN pk0 .head (fun H2 hle2 hfz => ?_)
    have hrw := RowsAt.row (R := At_FetchResponseTopicPartitionAbortedTransaction) hfz pk1 pk0.le.1 (fun p hp => At_FetchResponseTopicPartitionAbortedTransaction.mono _ _ _ _ hle2 (pk2 p hp))
    rw [hfe, ← hlt] at hrw
    have hnl : m = (lT (T.at 8)).length := by rw [hlt]; exact hm
    have hla : ListAt H2 (T.at 8) 3 At_FetchResponseTopicPartitionAbortedTransaction a c_ := ⟨hrw, by rw [pk4, hnu]⟩
    refine fun a_ w_ hA hw => ⟨_, _, _, hA.sub ?_, (le_20.trans hle2), hw, a, m, c_, rfl, rfl, hnl, hla⟩
    exact (.of ⟨rfl, rfl, rfl, trivial⟩)
  ·
   have hnu : (T.at 8).nul = true := by simpa using h45
   refine skN ?_
   refine fun a_ w_ hA hw => ⟨_, _, _, hA.sub ?_, ler, hw, none, 0, 0, rfl, rfl, (by rw [lT_nul hnu]; rfl), (ListAt.none hnu)⟩
   exact (.of ⟨rfl, rfl, rfl, trivial⟩)
 ·
  obtain ⟨a8, n8, c8, rfl, rfl, pj0, pj1⟩ := hI
  subst pj0
  have hf8 := pj1
  refine sr ?_
  refine la (Says.own (.tail (.tail .head))) Tryz.isAgg39 Tryz.sizeOf39 rfl (Nat.zero_add _).symm rfl rfl ?_
  refine cl rfl rfl rfl (m_at (i := 9) (hT.mono (le_10.trans (le_12.trans (le_14.trans le_16))))) rfl (fun v H1 L1 hle hR => ?_)
  obtain ⟨rfl, rfl, c69, rfl, g69⟩ := hR
  refine fc C39_0 rfl rfl rfl ?_
  refine cv Tryz.runUnderlying2 Tryz.runUnderlying21 rfl rfl rfl ?_
  refine fa0 F97_9 rfl rfl ?_
  refine st Tryz.sizeOf21 rfl rfl rfl rfl .head ?_
  refine nl ?_
  refine sr ?_
  refine la (Says.own (.tail (.tail .head))) Tryz.isAgg39 Tryz.sizeOf39 rfl (Nat.zero_add _).symm rfl rfl ?_
  refine cl rfl rfl rfl (m_at (i := 10) (hT.mono (le_10.trans (le_12.trans (le_14.trans le_16))))) rfl (fun v H1 L1 hle hR => ?_)
  obtain ⟨rfl, rfl, c74, rfl, g74⟩ := hR
  refine cl rfl rfl rfl (m_octetsOf g74) rfl (fun v H1 L1 le_33 hR => ?_)
  obtain ⟨rfl, a10, c10, rfl, hf10⟩ := hR
  refine fa0 F97_10 rfl rfl ?_
  refine st Tryz.sizeOf22 rfl rfl rfl rfl .head ?_
  refine nl ?_
  refine sq ?_
  refine sr ?_
  refine fa0 F39_4 rfl rfl ?_
  refine ld (Says.own (.tail (.tail .head))) Tryz.isAgg37 rfl (Nat.zero_add _).symm rfl rfl ?_
  refine ls Tryz.runUnderlying37 rfl rfl ?_
  refine mv rfl rfl ?_
  refine nl ?_
  refine nulC2 ?_
  have hun := hf.un
  refine fr (T.u.length) (fun q l' H' L' => ∃ (m : Option Nat), ∃ (kvs : List KV), ∃ (M : Chunk), [(2, .pointer (some ⟨b_2, 0, none⟩)), (3, .pointer (some ⟨b_3, 0, none⟩)), (78, .slice c.ua T.u.length c.uc), (79, .int .i64 (T.u.length : Int))] = l' ∧ M :: [(b_3, .cells [.int .i32 (IntKind.i32.wrap (T.at 0).n), .int .i16 (IntKind.i16.wrap (T.at 1).n), .int .i64 (T.at 2).n, .int .i64 (T.at 3).n, .int .i64 (T.at 4).n, .int .i32 (IntKind.i32.wrap ((T.at 5).at 0).n), .int .i64 ((T.at 5).at 1).n, .map m5_t, .int .i32 (IntKind.i32.wrap ((T.at 6).at 0).n), .int .i32 (IntKind.i32.wrap ((T.at 6).at 1).n), .map m6_t, .int .i64 ((T.at 7).at 0).n, .int .i32 (IntKind.i32.wrap ((T.at 7).at 1).n), .map m7_t, .slice a8 (lT (T.at 8)).length c8, .int .i32 (IntKind.i32.wrap (T.at 9).n), .slice a10 (sT (T.at 10)).length c10, .map m].toArray 97 (0, 0))] :: [(b_2, .cells [.int .i32 0, .int .i16 0, .int .i64 0, .int .i64 0, .int .i64 0, .int .i32 0, .int .i64 0, .map none, .int .i32 0, .int .i32 0, .map none, .int .i64 0, .int .i32 0, .map none, .slice none 0 0, .int .i32 0, .slice none 0 0, .map none].toArray 97 (0, 0))] :: [(b_1, .cells (c.cells T).toArray 39 (0, 0))] :: L = L' ∧ MapC m kvs M ∧ KvTo H' (T.u.take q) kvs ∧ (m = none ∨ 0 < q)) [(2, .pointer (some ⟨b_2, 0, none⟩)), (3, .pointer (some ⟨b_3, 0, none⟩)), (78, .slice c.ua T.u.length c.uc), (79, .int .i64 (T.u.length : Int))] (fun q l' H' L' h => ?_) (by omega) rfl (.of ⟨rfl, rfl, rfl, rfl, trivial⟩) ⟨none, [], [], rfl, rfl, MapC.nil, (KvTo.nil _), (.inl rfl)⟩ rfl rfl rfl rfl rfl (fun q l' H' L' hq le_34 hI => ?_) (fun l' H' L' le_35 hI => ?_)
  · obtain ⟨m, kvs, M, rfl, _⟩ := h; exact ⟨rfl, rfl, rfl, rfl⟩
  ·
   obtain ⟨m, kvs, M, rfl, rfl, pq0, pq1, pq2⟩ := hI
   refine sr ?_
   obtain ⟨b_36, o_37, e_38, g_39⟩ := (hT.u.mono (le_10.trans (le_12.trans (le_14.trans (le_16.trans (le_33.trans le_34)))))).at_ (ne_nil_of_lt hq)
   obtain ⟨c_40, q_41, q_42⟩ := g_39 q hq
   refine ix2 Tryz.runUnderlying37 Tryz.sizeOf65 rfl e_38 rfl rfl hq rfl ?_
   refine la (Says.fz q_41) Tryz.isAgg65 Tryz.sizeOf65 rfl (Nat.add_zero _).symm rfl rfl ?_
   refine al Tryz.zeroValue65 rfl rfl (fun b_43 => ?_)
   refine sa Tryz.sizeOf65 rfl rfl rfl rfl rfl .head ?_
   refine nl ?_
   refine rg ?_
   refine fa0 F97_11 rfl rfl ?_
   refine fa0 F65_0 rfl rfl ?_
   refine ld (Says.own .head) Tryz.isAgg62 rfl (Nat.zero_add _).symm rfl rfl ?_
   refine fa0 F65_1 rfl rfl ?_
   refine ld (Says.own .head) Tryz.isAgg22 rfl (Nat.zero_add _).symm rfl rfl ?_
   refine tf (.tail (.tail .head)) ?_
   refine tf (.tail (.tail .head)) ?_
   refine cl rfl rfl rfl (t_set (cs := [.int .i32 (IntKind.i32.wrap (T.at 0).n), .int .i16 (IntKind.i16.wrap (T.at 1).n), .int .i64 (T.at 2).n, .int .i64 (T.at 3).n, .int .i64 (T.at 4).n, .int .i32 (IntKind.i32.wrap ((T.at 5).at 0).n), .int .i64 ((T.at 5).at 1).n, .map m5_t, .int .i32 (IntKind.i32.wrap ((T.at 6).at 0).n), .int .i32 (IntKind.i32.wrap ((T.at 6).at 1).n), .map m6_t, .int .i64 ((T.at 7).at 0).n, .int .i32 (IntKind.i32.wrap ((T.at 7).at 1).n), .map m7_t, .slice a8 (lT (T.at 8)).length c8, .int .i32 (IntKind.i32.wrap (T.at 9).n), .slice a10 (sT (T.at 10)).length c10, .map m]) (off := 17) pq0 rfl) rfl (fun v H1 L1 hle hR => ?_)
   obtain ⟨rfl, g89, cs89, hs89, rfl⟩ := hR
   obtain rfl : [.int .i32 (IntKind.i32.wrap (T.at 0).n), .int .i16 (IntKind.i16.wrap (T.at 1).n), .int .i64 (T.at 2).n, .int .i64 (T.at 3).n, .int .i64 (T.at 4).n, .int .i32 (IntKind.i32.wrap ((T.at 5).at 0).n), .int .i64 ((T.at 5).at 1).n, .map m5_t, .int .i32 (IntKind.i32.wrap ((T.at 6).at 0).n), .int .i32 (IntKind.i32.wrap ((T.at 6).at 1).n), .map m6_t, .int .i64 ((T.at 7).at 0).n, .int .i32 (IntKind.i32.wrap ((T.at 7).at 1).n), .map m7_t, .slice a8 (lT (T.at 8)).length c8, .int .i32 (IntKind.i32.wrap (T.at 9).n), .slice a10 (sT (T.at 10)).length c10, .map (some g89)] = cs89 := Option.some.inj hs89
   refine nN ?_
   refine Nb ?_
   refine drN (.tail (.tail .head)) ?_
   refine fun a_ w_ hA hw => ⟨_, _, _, hA.sub ?_, le_34, hw, _, rfl, _, _, [(g89, _)], rfl, rfl, (.inr ⟨g89, rfl, rfl⟩), (KvTo.put hf.u (List.getElem?_eq_getElem hq) pq1 (⟨⟨_, _, rfl, q_42.val⟩, q_42.lo, q_42.hi⟩)), (.inr (Nat.succ_pos _))⟩
   exact (.of ⟨rfl, rfl, rfl, rfl, rfl, trivial⟩)
  ·
   obtain ⟨m, kvs, M, rfl, rfl, pq0, pq1, pq2⟩ := hI
   refine toWp ?_
   rw [List.take_length] at pq1
   refine frMW pq0 .head (fun H3 hle3 hmf => ?_)
   have hft : KvAtN _ m T.u := ⟨KvTo.at_ hf.u (pq1.mono hle3) hmf, fun h => by rw [h] at pq2; rcases pq2 with h2 | h2; exact h2; exact absurd h2 (by simp)⟩
   refine sr ?_
   refine la (Says.own .head) Tryz.isAgg97 Tryz.sizeOf97 rfl (Nat.zero_add _).symm rfl rfl ?_
   refine sa Tryz.sizeOf97 rfl rfl rfl rfl rfl (.tail .head) ?_
   refine nl ?_
   refine drW .head ?_
   refine drW (.tail .head) ?_
   exact rC rfl Tryz.isAgg97 Tryz.sizeOf97 rfl .head rfl (le_10.trans (le_12.trans (le_14.trans (le_16.trans (le_33.trans (le_35.trans hle3)))))) (fun _ _ h => h) ⟨rfl, _, rfl, ⟨m5_t, m6_t, m7_t, a8, c8, a10, c10, m, rfl, (hf5_0.mono (le_12.trans (le_14.trans (le_16.trans (le_33.trans (le_35.trans hle3)))))), (hf6_0.mono (le_14.trans (le_16.trans (le_33.trans (le_35.trans hle3))))), (hf7_0.mono (le_16.trans (le_33.trans (le_35.trans hle3)))), (hf8.mono At_FetchResponseTopicPartitionAbortedTransaction.mono (le_33.trans (le_35.trans hle3))), (hf10.mono (le_35.trans hle3)), hft⟩⟩
theorem make_FetchResponseTopic {H : Fz} {L : Own} {c : TC} {T : Tr} (hT : TreeAt H c T) (hf : Fine T) :
  Fn Tryz.prog 30 [.agg (c.cells T).toArray] H L (fun v H' L' => L = L' ∧ ∃ cs : List Value, v = .agg cs.toArray ∧ At_FetchResponseTopic H' T cs) := by
 refine Fn.mk Tryz.call30 Tryz.func30 rfl Tryz.ntmps30 rfl ?_
 refine sr ?_
 refine bx rfl rfl rfl (fun b_1 => ?_)
 refine al Tryz.zeroValue75 rfl rfl (fun b_2 => ?_)
 refine nl ?_
 refine sr ?_
 refine al Tryz.zeroValue75 rfl rfl (fun b_3 => ?_)
 refine nl ?_
 refine sr ?_
 refine la (Says.own (.tail (.tail .head))) Tryz.isAgg39 Tryz.sizeOf39 rfl (Nat.zero_add _).symm rfl rfl ?_
 refine cl rfl rfl rfl (m_at (i := 0) hT) rfl (fun v H1 L1 hle hR => ?_)
 obtain ⟨rfl, rfl, c9, rfl, g9⟩ := hR
 refine fc C39_1 rfl rfl rfl ?_
 refine cbS Tryz.underlying22 Tryz.underlying5 Tryz.underlying9 rfl g9.s rfl rfl ?_
 refine fa0 F75_0 rfl rfl ?_
 refine st Tryz.sizeOf9 rfl rfl rfl rfl .head ?_
 refine nl ?_
 refine sr ?_
 refine la (Says.own (.tail (.tail .head))) Tryz.isAgg39 Tryz.sizeOf39 rfl (Nat.zero_add _).symm rfl rfl ?_
 refine cl rfl rfl rfl (m_at (i := 1) hT) rfl (fun v H1 L1 hle hR => ?_)
 obtain ⟨rfl, rfl, c14, rfl, g14⟩ := hR
 refine fc C39_1 rfl rfl rfl ?_
 refine cl rfl rfl rfl (m_sixteen g14.s) rfl (fun v H1 L1 hle hR => ?_)
 obtain ⟨rfl, rfl, rfl⟩ := hR
 refine fa0 F75_1 rfl rfl ?_
 refine sa Tryz.sizeOf72 rfl rfl rfl rfl rfl .head ?_
 refine nl ?_
 refine sq ?_
 refine sr ?_
 refine la (Says.own (.tail (.tail .head))) Tryz.isAgg39 Tryz.sizeOf39 rfl (Nat.zero_add _).symm rfl rfl ?_
 refine cl rfl rfl rfl (m_at (i := 2) hT) rfl (fun v H1 L1 hle hR => ?_)
 obtain ⟨rfl, rfl, c19, rfl, g19⟩ := hR
 refine fc C39_2 rfl rfl rfl ?_
 refine nt rfl rfl ?_
 refine nl ?_
 refine cutT (fun l' H' L' => ∃ (a2 : Option Addr), ∃ (n2 : Nat), ∃ (c2 : Nat), [(1, .pointer (some ⟨b_1, 0, none⟩)), (2, .pointer (some ⟨b_2, 0, none⟩)), (3, .pointer (some ⟨b_3, 0, none⟩))] = l' ∧ [(b_3, .cells [.string ⟨(T.at 0).s.toArray⟩, ub (T.at 1).s 0, ub (T.at 1).s 1, ub (T.at 1).s 2, ub (T.at 1).s 3, ub (T.at 1).s 4, ub (T.at 1).s 5, ub (T.at 1).s 6, ub (T.at 1).s 7, ub (T.at 1).s 8, ub (T.at 1).s 9, ub (T.at 1).s 10, ub (T.at 1).s 11, ub (T.at 1).s 12, ub (T.at 1).s 13, ub (T.at 1).s 14, ub (T.at 1).s 15, .slice a2 n2 c2, .map none].toArray 75 (0, 0))] :: [(b_2, .cells [.string ⟨#[]⟩, .int .u8 0, .int .u8 0, .int .u8 0, .int .u8 0, .int .u8 0, .int .u8 0, .int .u8 0, .int .u8 0, .int .u8 0, .int .u8 0, .int .u8 0, .int .u8 0, .int .u8 0, .int .u8 0, .int .u8 0, .int .u8 0, .slice none 0 0, .map none].toArray 75 (0, 0))] :: [(b_1, .cells (c.cells T).toArray 39 (0, 0))] :: L = L' ∧ n2 = (lT (T.at 2)).length ∧ ListAt H' (T.at 2) 18 At_FetchResponseTopicPartition a2 c2) ?_ (fun l' H' L' le_8 hI => ?_)
 ·
  refine cb rfl (fun h21 => ?_) (fun h21 => ?_)
  ·
   have hnu : (T.at 2).nul = false := by simpa using h21
   have hlt : lT (T.at 2) = (T.at 2).l := lT_not hnu
   have hfl := (hf.at 2).len
   refine sr ?_
   refine la (Says.own (.tail (.tail .head))) Tryz.isAgg39 Tryz.sizeOf39 rfl (Nat.zero_add _).symm rfl rfl ?_
   refine cl rfl rfl rfl (m_at (i := 2) hT) rfl (fun v H1 L1 hle hR => ?_)
   obtain ⟨rfl, rfl, c23, rfl, g23⟩ := hR
   refine fc C39_3 rfl rfl rfl ?_
   refine ls Tryz.runUnderlying36 rfl rfl ?_
   refine mks (m := 0) (c := (T.at 2).l.length) (zs := [.int .i32 0, .int .i16 0, .int .i64 0, .int .i64 0, .int .i64 0, .int .i32 0, .int .i64 0, .map none, .int .i32 0, .int .i32 0, .map none, .int .i64 0, .int .i32 0, .map none, .slice none 0 0, .int .i32 0, .slice none 0 0, .map none]) Tryz.underlying73 I97 rfl rfl rfl rfl rfl (by omega) (by omega) (by unfold maxLen; omega) rfl (fun bm26 N26 r26 => ?_)
   refine fa0 F75_2 rfl rfl ?_
   refine st Tryz.sizeOf73 rfl rfl rfl rfl (.tail .head) ?_
   refine nl ?_
   refine sr ?_
   refine la (Says.own (.tail (.tail (.tail .head)))) Tryz.isAgg39 Tryz.sizeOf39 rfl (Nat.zero_add _).symm rfl rfl ?_
   refine cl rfl rfl rfl (m_at (i := 2) hT) rfl (fun v H1 L1 hle hR => ?_)
   obtain ⟨rfl, rfl, c29, rfl, g29⟩ := hR
   refine fc C39_3 rfl rfl rfl ?_
   refine ls Tryz.runUnderlying36 rfl rfl ?_
   refine mv rfl rfl ?_
   refine nl ?_
   refine fr ((T.at 2).l.length) (fun k l' H' L' => ∃ (a : Option Addr), ∃ (m : Nat), ∃ (c_ : Nat), ∃ (es : List (KE 18)), ∃ (N : Chunk), [(1, .pointer (some ⟨b_1, 0, none⟩)), (2, .pointer (some ⟨b_2, 0, none⟩)), (3, .pointer (some ⟨b_3, 0, none⟩)), (30, .slice c29.la (T.at 2).l.length c29.lc), (31, .int .i64 ((T.at 2).l.length : Int))] = l' ∧ N :: [(b_3, .cells [.string ⟨(T.at 0).s.toArray⟩, ub (T.at 1).s 0, ub (T.at 1).s 1, ub (T.at 1).s 2, ub (T.at 1).s 3, ub (T.at 1).s 4, ub (T.at 1).s 5, ub (T.at 1).s 6, ub (T.at 1).s 7, ub (T.at 1).s 8, ub (T.at 1).s 9, ub (T.at 1).s 10, ub (T.at 1).s 11, ub (T.at 1).s 12, ub (T.at 1).s 13, ub (T.at 1).s 14, ub (T.at 1).s 15, .slice a m c_, .map none].toArray 75 (0, 0))] :: [(b_2, .cells [.string ⟨#[]⟩, .int .u8 0, .int .u8 0, .int .u8 0, .int .u8 0, .int .u8 0, .int .u8 0, .int .u8 0, .int .u8 0, .int .u8 0, .int .u8 0, .int .u8 0, .int .u8 0, .int .u8 0, .int .u8 0, .int .u8 0, .int .u8 0, .slice none 0 0, .map none].toArray 75 (0, 0))] :: [(b_1, .cells (c.cells T).toArray 39 (0, 0))] :: L = L' ∧ Row 97 18 a m c_ (es.flatMap fk) N ∧ m = es.length ∧ (∀ p : KE 18, p ∈ es → At_FetchResponseTopicPartition H' p.2 (fk p)) ∧ es.map (·.2) = ((T.at 2).l.take k).map id ∧ a.isNone = false) [(1, .pointer (some ⟨b_1, 0, none⟩)), (2, .pointer (some ⟨b_2, 0, none⟩)), (3, .pointer (some ⟨b_3, 0, none⟩)), (30, .slice c29.la (T.at 2).l.length c29.lc), (31, .int .i64 ((T.at 2).l.length : Int))] (fun k l' H' L' h => ?_) (by omega) rfl (.of ⟨rfl, rfl, rfl, rfl, rfl, trivial⟩) ⟨some ⟨bm26, 0, none⟩, 0, _, [], N26, rfl, rfl, r26, rfl, (fun p hp => by cases hp), (by simp), rfl⟩ rfl rfl rfl rfl rfl (fun k l' H' L' hk le_11 hI => ?_) (fun l' H' L' le_12 hI => ?_)
   · obtain ⟨a, m, c_, es, N, rfl, _⟩ := h; exact ⟨rfl, rfl, rfl, rfl⟩
   ·
    obtain ⟨a, m, c_, es, N, rfl, rfl, pk0, pk1, pk2, pk3, pk4⟩ := hI
    refine sr ?_
    obtain ⟨b_13, o_14, e_15, g_16⟩ := (g29.l.mono le_11).at_ (ne_nil_of_lt hk)
    obtain ⟨c_17, q_18, q_19⟩ := g_16 k hk
    refine ix2 Tryz.runUnderlying36 Tryz.sizeOf39 rfl e_15 rfl rfl hk rfl ?_
    refine la (Says.fz q_18) Tryz.isAgg39 Tryz.sizeOf39 rfl (Nat.add_zero _).symm rfl rfl ?_
    refine al Tryz.zeroValue39 rfl rfl (fun b_20 => ?_)
    refine sa Tryz.sizeOf39 rfl rfl rfl rfl rfl .head ?_
    refine nl ?_
    refine rgD 7 (.keep (.skip (.keep (.keep (.keep .nil))))) mixed ?_
    refine dU 0 rfl rfl rfl (y_fa0 F75_2 rfl) (.keep (.skip (.keep (.keep (.keep .nil))))) ler ?_
    refine dU 1 rfl rfl rfl (y_ld (Says.own (.tail .head)) Tryz.isAgg73 rfl (Nat.zero_add _).symm rfl) (.keep (.skip (.keep (.keep (.keep .nil))))) ler ?_
    refine dU 2 rfl rfl rfl (y_la (Says.own .head) Tryz.isAgg39 Tryz.sizeOf39 rfl (Nat.zero_add _).symm rfl) (.keep (.skip (.keep (.keep (.keep .nil))))) ler ?_
    refine dE 3 (by kernel_rfl) rfl ?_
    refine cl rfl rfl rfl (make_FetchResponseTopicPartition q_19 ((hf.at 2).el (List.getElem_mem hk))) rfl (fun v H1 L1 le_21 hR => ?_)
    obtain ⟨rfl, cs39, rfl, g39⟩ := hR
    have ho39 := At_FetchResponseTopicPartition.ok g39
    have gg39 := g39
    obtain ⟨m5_te, m6_te, m7_te, a8e, c8e, a10e, c10e, mte, rfl, he0, he1, he2, he3, he4, he5⟩ := g39
    refine dN (.keep (.skip (.keep (.keep (.keep .nil))))) le_21 ?_
    refine dE 4 (by kernel_rfl) rfl ?_
    refine bs' L73 rfl rfl rfl rfl (fun b_22 => ?_)
    refine dN (.skip (.keep (.skip (.keep (.keep (.keep .nil)))))) le_21 ?_
    refine dE 5 (by kernel_rfl) rfl ?_
    have hmk : m = k := by have h1 := congrArg List.length pk3; rw [List.length_map, List.length_map, List.length_take] at h1; omega
    refine ap (news := fk ((⟨_, ho39⟩, (T.at 2).l[k]) : KE 18)) Tryz.underlying73 I97 rfl rfl pk0 (fun _ => (.tail (.tail .head))) (src_says Tryz.underlying73 rfl (fun _ => Says.own .head) (fk_one _)) (by omega) (by unfold maxLen; omega) rfl (fun a41 c41 N41 r41 z41 => ?_)
    rw [flatMap_snoc'] at r41
    have hin : a41.isNone = false := by cases a41 with | none => have := z41.1 rfl; omega | some _ => rfl
    refine dN (.skip (.keep (.skip (.keep (.keep (.keep .nil)))))) le_21 ?_
    refine dU 6 rfl rfl rfl (y_fa0 F75_2 rfl) (.skip (.keep (.skip (.keep (.keep (.keep .nil)))))) le_21 ?_
    refine dE 7 (by kernel_rfl) rfl ?_
    refine st Tryz.sizeOf73 rfl rfl rfl rfl (.tail (.tail (.tail .head))) ?_
    refine dNk (by kernel_rfl) ?_
    refine dD (by kernel_rfl) ?_
    refine Nb ?_
    refine drN .head ?_
    refine drN .head ?_
    refine fun a_ w_ hA hw => ⟨_, _, _, hA.sub ?_, (le_11.trans le_21), hw, _, rfl, a41, _, c41, (es ++ [((⟨_, ho39⟩, (T.at 2).l[k]) : KE 18)]), N41, rfl, rfl, r41, (by simp; omega), (fun p hp => (mem_snoc hp).elim (fun h => At_FetchResponseTopicPartition.mono _ _ _ _ le_21 (pk2 p h)) (fun h => h ▸ At_FetchResponseTopicPartition.mono _ _ _ _ ler gg39)), (map_take_snoc hk pk3), hin⟩
    exact (.of ⟨rfl, rfl, rfl, rfl, rfl, rfl, trivial⟩)
   ·
    obtain ⟨a, m, c_, es, N, rfl, rfl, pk0, pk1, pk2, pk3, pk4⟩ := hI
    refine toNn ?_
    have hm : m = (T.at 2).l.length := by have h1 := congrArg List.length pk3; rw [List.length_map, List.length_map, List.take_length] at h1; omega
    have hfe : es.map (·.2) = (T.at 2).l := by rw [pk3, List.take_length, List.map_id]
    refine frN pk0 .head (fun H2 hle2 hfz => ?_)
    have hrw := RowsAt.row (R := At_FetchResponseTopicPartition) hfz pk1 pk0.le.1 (fun p hp => At_FetchResponseTopicPartition.mono _ _ _ _ hle2 (pk2 p hp))
    rw [hfe, ← hlt] at hrw
    have hnl : m = (lT (T.at 2)).length := by rw [hlt]; exact hm
    have hla : ListAt H2 (T.at 2) 18 At_FetchResponseTopicPartition a c_ := ⟨hrw, by rw [pk4, hnu]⟩
    refine fun a_ w_ hA hw => ⟨_, _, _, hA.sub ?_, (le_12.trans hle2), hw, a, m, c_, rfl, rfl, hnl, hla⟩
    exact (.of ⟨rfl, rfl, rfl, trivial⟩)
  ·
   have hnu : (T.at 2).nul = true := by simpa using h21
   refine skN ?_
   refine fun a_ w_ hA hw => ⟨_, _, _, hA.sub ?_, ler, hw, none, 0, 0, rfl, rfl, (by rw [lT_nul hnu]; rfl), (ListAt.none hnu)⟩
   exact (.of ⟨rfl, rfl, rfl, trivial⟩)
 ·
  obtain ⟨a2, n2, c2, rfl, rfl, pj0, pj1⟩ := hI
  subst pj0
  have hf2 := pj1
  refine sq ?_
  refine sr ?_
  refine fa0 F39_4 rfl rfl ?_
  refine ld (Says.own (.tail (.tail .head))) Tryz.isAgg37 rfl (Nat.zero_add _).symm rfl rfl ?_
  refine ls Tryz.runUnderlying37 rfl rfl ?_
  refine mv rfl rfl ?_
  refine nl ?_
  refine nulC2 ?_
  have hun := hf.un
  refine fr (T.u.length) (fun q l' H' L' => ∃ (m : Option Nat), ∃ (kvs : List KV), ∃ (M : Chunk), [(2, .pointer (some ⟨b_2, 0, none⟩)), (3, .pointer (some ⟨b_3, 0, none⟩)), (45, .slice c.ua T.u.length c.uc), (46, .int .i64 (T.u.length : Int))] = l' ∧ M :: [(b_3, .cells [.string ⟨(T.at 0).s.toArray⟩, ub (T.at 1).s 0, ub (T.at 1).s 1, ub (T.at 1).s 2, ub (T.at 1).s 3, ub (T.at 1).s 4, ub (T.at 1).s 5, ub (T.at 1).s 6, ub (T.at 1).s 7, ub (T.at 1).s 8, ub (T.at 1).s 9, ub (T.at 1).s 10, ub (T.at 1).s 11, ub (T.at 1).s 12, ub (T.at 1).s 13, ub (T.at 1).s 14, ub (T.at 1).s 15, .slice a2 (lT (T.at 2)).length c2, .map m].toArray 75 (0, 0))] :: [(b_2, .cells [.string ⟨#[]⟩, .int .u8 0, .int .u8 0, .int .u8 0, .int .u8 0, .int .u8 0, .int .u8 0, .int .u8 0, .int .u8 0, .int .u8 0, .int .u8 0, .int .u8 0, .int .u8 0, .int .u8 0, .int .u8 0, .int .u8 0, .int .u8 0, .slice none 0 0, .map none].toArray 75 (0, 0))] :: [(b_1, .cells (c.cells T).toArray 39 (0, 0))] :: L = L' ∧ MapC m kvs M ∧ KvTo H' (T.u.take q) kvs ∧ (m = none ∨ 0 < q)) [(2, .pointer (some ⟨b_2, 0, none⟩)), (3, .pointer (some ⟨b_3, 0, none⟩)), (45, .slice c.ua T.u.length c.uc), (46, .int .i64 (T.u.length : Int))] (fun q l' H' L' h => ?_) (by omega) rfl (.of ⟨rfl, rfl, rfl, rfl, trivial⟩) ⟨none, [], [], rfl, rfl, MapC.nil, (KvTo.nil _), (.inl rfl)⟩ rfl rfl rfl rfl rfl (fun q l' H' L' hq le_23 hI => ?_) (fun l' H' L' le_24 hI => ?_)
  · obtain ⟨m, kvs, M, rfl, _⟩ := h; exact ⟨rfl, rfl, rfl, rfl⟩
  ·
   obtain ⟨m, kvs, M, rfl, rfl, pq0, pq1, pq2⟩ := hI
   refine sr ?_
   obtain ⟨b_25, o_26, e_27, g_28⟩ := (hT.u.mono (le_8.trans le_23)).at_ (ne_nil_of_lt hq)
   obtain ⟨c_29, q_30, q_31⟩ := g_28 q hq
   refine ix2 Tryz.runUnderlying37 Tryz.sizeOf65 rfl e_27 rfl rfl hq rfl ?_
   refine la (Says.fz q_30) Tryz.isAgg65 Tryz.sizeOf65 rfl (Nat.add_zero _).symm rfl rfl ?_
   refine al Tryz.zeroValue65 rfl rfl (fun b_32 => ?_)
   refine sa Tryz.sizeOf65 rfl rfl rfl rfl rfl .head ?_
   refine nl ?_
   refine rg ?_
   refine fa0 F75_3 rfl rfl ?_
   refine fa0 F65_0 rfl rfl ?_
   refine ld (Says.own .head) Tryz.isAgg62 rfl (Nat.zero_add _).symm rfl rfl ?_
   refine fa0 F65_1 rfl rfl ?_
   refine ld (Says.own .head) Tryz.isAgg22 rfl (Nat.zero_add _).symm rfl rfl ?_
   refine tf (.tail (.tail .head)) ?_
   refine tf (.tail (.tail .head)) ?_
   refine cl rfl rfl rfl (t_set (cs := [.string ⟨(T.at 0).s.toArray⟩, ub (T.at 1).s 0, ub (T.at 1).s 1, ub (T.at 1).s 2, ub (T.at 1).s 3, ub (T.at 1).s 4, ub (T.at 1).s 5, ub (T.at 1).s 6, ub (T.at 1).s 7, ub (T.at 1).s 8, ub (T.at 1).s 9, ub (T.at 1).s 10, ub (T.at 1).s 11, ub (T.at 1).s 12, ub (T.at 1).s 13, ub (T.at 1).s 14, ub (T.at 1).s 15, .slice a2 (lT (T.at 2)).length c2, .map m]) (off := 18) pq0 rfl) rfl (fun v H1 L1 hle hR => ?_)
   obtain ⟨rfl, g56, cs56, hs56, rfl⟩ := hR
   obtain rfl : [.string ⟨(T.at 0).s.toArray⟩, ub (T.at 1).s 0, ub (T.at 1).s 1, ub (T.at 1).s 2, ub (T.at 1).s 3, ub (T.at 1).s 4, ub (T.at 1).s 5, ub (T.at 1).s 6, ub (T.at 1).s 7, ub (T.at 1).s 8, ub (T.at 1).s 9, ub (T.at 1).s 10, ub (T.at 1).s 11, ub (T.at 1).s 12, ub (T.at 1).s 13, ub (T.at 1).s 14, ub (T.at 1).s 15, .slice a2 (lT (T.at 2)).length c2, .map (some g56)] = cs56 := Option.some.inj hs56
   refine nN ?_
   refine Nb ?_
   refine drN (.tail (.tail .head)) ?_
   refine fun a_ w_ hA hw => ⟨_, _, _, hA.sub ?_, le_23, hw, _, rfl, _, _, [(g56, _)], rfl, rfl, (.inr ⟨g56, rfl, rfl⟩), (KvTo.put hf.u (List.getElem?_eq_getElem hq) pq1 (⟨⟨_, _, rfl, q_31.val⟩, q_31.lo, q_31.hi⟩)), (.inr (Nat.succ_pos _))⟩
   exact (.of ⟨rfl, rfl, rfl, rfl, rfl, trivial⟩)
  ·
   obtain ⟨m, kvs, M, rfl, rfl, pq0, pq1, pq2⟩ := hI
   refine toWp ?_
   rw [List.take_length] at pq1
   refine frMW pq0 .head (fun H3 hle3 hmf => ?_)
   have hft : KvAtN _ m T.u := ⟨KvTo.at_ hf.u (pq1.mono hle3) hmf, fun h => by rw [h] at pq2; rcases pq2 with h2 | h2; exact h2; exact absurd h2 (by simp)⟩
   refine sr ?_
   refine la (Says.own .head) Tryz.isAgg75 Tryz.sizeOf75 rfl (Nat.zero_add _).symm rfl rfl ?_
   refine sa Tryz.sizeOf75 rfl rfl rfl rfl rfl (.tail .head) ?_
   refine nl ?_
   refine drW .head ?_
   refine drW (.tail .head) ?_
   exact rC rfl Tryz.isAgg75 Tryz.sizeOf75 rfl .head rfl (le_8.trans (le_24.trans hle3)) (fun _ _ h => h) ⟨rfl, _, rfl, ⟨a2, c2, m, rfl, (hf2.mono At_FetchResponseTopicPartition.mono (le_24.trans hle3)), hft⟩⟩
theorem make_FetchResponseBroker {H : Fz} {L : Own} {c : TC} {T : Tr} (hT : TreeAt H c T) (hf : Fine T) :
  Fn Tryz.prog 31 [.agg (c.cells T).toArray] H L (fun v H' L' => L = L' ∧ ∃ cs : List Value, v = .agg cs.toArray ∧ At_FetchResponseBroker H' T cs) := by
 refine Fn.mk Tryz.call31 Tryz.func31 rfl Tryz.ntmps31 rfl ?_
 refine sr ?_
 refine bx rfl rfl rfl (fun b_1 => ?_)
 refine al Tryz.zeroValue79 rfl rfl (fun b_2 => ?_)
 refine nl ?_
 refine sr ?_
 refine al Tryz.zeroValue79 rfl rfl (fun b_3 => ?_)
 refine nl ?_
 refine sr ?_
 refine la (Says.own (.tail (.tail .head))) Tryz.isAgg39 Tryz.sizeOf39 rfl (Nat.zero_add _).symm rfl rfl ?_
 refine cl rfl rfl rfl (m_at (i := 0) hT) rfl (fun v H1 L1 hle hR => ?_)
 obtain ⟨rfl, rfl, c7, rfl, g7⟩ := hR
 refine fc C39_0 rfl rfl rfl ?_
 refine cv Tryz.runUnderlying2 Tryz.runUnderlying21 rfl rfl rfl ?_
 refine fa0 F79_0 rfl rfl ?_
 refine st Tryz.sizeOf21 rfl rfl rfl rfl .head ?_
 refine nl ?_
 refine sr ?_
 refine la (Says.own (.tail (.tail .head))) Tryz.isAgg39 Tryz.sizeOf39 rfl (Nat.zero_add _).symm rfl rfl ?_
 refine cl rfl rfl rfl (m_at (i := 1) hT) rfl (fun v H1 L1 hle hR => ?_)
 obtain ⟨rfl, rfl, c12, rfl, g12⟩ := hR
 refine fc C39_1 rfl rfl rfl ?_
 refine cbS Tryz.underlying22 Tryz.underlying5 Tryz.underlying9 rfl g12.s rfl rfl ?_
 refine fa0 F79_1 rfl rfl ?_
 refine st Tryz.sizeOf9 rfl rfl rfl rfl .head ?_
 refine nl ?_
 refine sr ?_
 refine la (Says.own (.tail (.tail .head))) Tryz.isAgg39 Tryz.sizeOf39 rfl (Nat.zero_add _).symm rfl rfl ?_
 refine cl rfl rfl rfl (m_at (i := 2) hT) rfl (fun v H1 L1 hle hR => ?_)
 obtain ⟨rfl, rfl, c17, rfl, g17⟩ := hR
 refine fc C39_0 rfl rfl rfl ?_
 refine cv Tryz.runUnderlying2 Tryz.runUnderlying21 rfl rfl rfl ?_
 refine fa0 F79_2 rfl rfl ?_
 refine st Tryz.sizeOf21 rfl rfl rfl rfl .head ?_
 refine nl ?_
 refine sr ?_
 refine la (Says.own (.tail (.tail .head))) Tryz.isAgg39 Tryz.sizeOf39 rfl (Nat.zero_add _).symm rfl rfl ?_
 refine cl rfl rfl rfl (m_at (i := 3) hT) rfl (fun v H1 L1 hle hR => ?_)
 obtain ⟨rfl, rfl, c22, rfl, g22⟩ := hR
 refine cl rfl rfl rfl (m_textOf g22) rfl (fun v H1 L1 le_8 hR => ?_)
 obtain ⟨rfl, p3, rfl, hf3⟩ := hR
 refine fa0 F79_3 rfl rfl ?_
 refine st Tryz.sizeOf77 rfl rfl rfl rfl .head ?_
 refine nl ?_
 refine sq ?_
 refine sr ?_
 refine fa0 F39_4 rfl rfl ?_
 refine ld (Says.own (.tail (.tail .head))) Tryz.isAgg37 rfl (Nat.zero_add _).symm rfl rfl ?_
 refine ls Tryz.runUnderlying37 rfl rfl ?_
 refine mv rfl rfl ?_
 refine nl ?_
 refine nulC2 ?_
 have hun := hf.un
 refine fr (T.u.length) (fun q l' H' L' => ∃ (m : Option Nat), ∃ (kvs : List KV), ∃ (M : Chunk), [(2, .pointer (some ⟨b_2, 0, none⟩)), (3, .pointer (some ⟨b_3, 0, none⟩)), (26, .slice c.ua T.u.length c.uc), (27, .int .i64 (T.u.length : Int))] = l' ∧ M :: [(b_3, .cells [.int .i32 (IntKind.i32.wrap (T.at 0).n), .string ⟨(T.at 1).s.toArray⟩, .int .i32 (IntKind.i32.wrap (T.at 2).n), .pointer p3, .map m].toArray 79 (0, 0))] :: [(b_2, .cells [.int .i32 0, .string ⟨#[]⟩, .int .i32 0, .pointer none, .map none].toArray 79 (0, 0))] :: [(b_1, .cells (c.cells T).toArray 39 (0, 0))] :: L = L' ∧ MapC m kvs M ∧ KvTo H' (T.u.take q) kvs ∧ (m = none ∨ 0 < q)) [(2, .pointer (some ⟨b_2, 0, none⟩)), (3, .pointer (some ⟨b_3, 0, none⟩)), (26, .slice c.ua T.u.length c.uc), (27, .int .i64 (T.u.length : Int))] (fun q l' H' L' h => ?_) (by omega) rfl (.of ⟨rfl, rfl, rfl, rfl, trivial⟩) ⟨none, [], [], rfl, rfl, MapC.nil, (KvTo.nil _), (.inl rfl)⟩ rfl rfl rfl rfl rfl (fun q l' H' L' hq le_9 hI => ?_) (fun l' H' L' le_10 hI => ?_)
 · obtain ⟨m, kvs, M, rfl, _⟩ := h; exact ⟨rfl, rfl, rfl, rfl⟩
 ·
  obtain ⟨m, kvs, M, rfl, rfl, pq0, pq1, pq2⟩ := hI
  refine sr ?_
  obtain ⟨b_11, o_12, e_13, g_14⟩ := (hT.u.mono (le_8.trans le_9)).at_ (ne_nil_of_lt hq)
  obtain ⟨c_15, q_16, q_17⟩ := g_14 q hq
  refine ix2 Tryz.runUnderlying37 Tryz.sizeOf65 rfl e_13 rfl rfl hq rfl ?_
  refine la (Says.fz q_16) Tryz.isAgg65 Tryz.sizeOf65 rfl (Nat.add_zero _).symm rfl rfl ?_
  refine al Tryz.zeroValue65 rfl rfl (fun b_18 => ?_)
  refine sa Tryz.sizeOf65 rfl rfl rfl rfl rfl .head ?_
  refine nl ?_
  refine rg ?_
  refine fa0 F79_4 rfl rfl ?_
  refine fa0 F65_0 rfl rfl ?_
  refine ld (Says.own .head) Tryz.isAgg62 rfl (Nat.zero_add _).symm rfl rfl ?_
  refine fa0 F65_1 rfl rfl ?_
  refine ld (Says.own .head) Tryz.isAgg22 rfl (Nat.zero_add _).symm rfl rfl ?_
  refine tf (.tail (.tail .head)) ?_
  refine tf (.tail (.tail .head)) ?_
  refine cl rfl rfl rfl (t_set (cs := [.int .i32 (IntKind.i32.wrap (T.at 0).n), .string ⟨(T.at 1).s.toArray⟩, .int .i32 (IntKind.i32.wrap (T.at 2).n), .pointer p3, .map m]) (off := 4) pq0 rfl) rfl (fun v H1 L1 hle hR => ?_)
  obtain ⟨rfl, g37, cs37, hs37, rfl⟩ := hR
  obtain rfl : [.int .i32 (IntKind.i32.wrap (T.at 0).n), .string ⟨(T.at 1).s.toArray⟩, .int .i32 (IntKind.i32.wrap (T.at 2).n), .pointer p3, .map (some g37)] = cs37 := Option.some.inj hs37
  refine nN ?_
  refine Nb ?_
  refine drN (.tail (.tail .head)) ?_
  refine fun a_ w_ hA hw => ⟨_, _, _, hA.sub ?_, le_9, hw, _, rfl, _, _, [(g37, _)], rfl, rfl, (.inr ⟨g37, rfl, rfl⟩), (KvTo.put hf.u (List.getElem?_eq_getElem hq) pq1 (⟨⟨_, _, rfl, q_17.val⟩, q_17.lo, q_17.hi⟩)), (.inr (Nat.succ_pos _))⟩
  exact (.of ⟨rfl, rfl, rfl, rfl, rfl, trivial⟩)
 ·
  obtain ⟨m, kvs, M, rfl, rfl, pq0, pq1, pq2⟩ := hI
  refine toWp ?_
  rw [List.take_length] at pq1
  refine frMW pq0 .head (fun H3 hle3 hmf => ?_)
  have hft : KvAtN _ m T.u := ⟨KvTo.at_ hf.u (pq1.mono hle3) hmf, fun h => by rw [h] at pq2; rcases pq2 with h2 | h2; exact h2; exact absurd h2 (by simp)⟩
  refine sr ?_
  refine la (Says.own .head) Tryz.isAgg79 Tryz.sizeOf79 rfl (Nat.zero_add _).symm rfl rfl ?_
  refine sa Tryz.sizeOf79 rfl rfl rfl rfl rfl (.tail .head) ?_
  refine nl ?_
  refine drW .head ?_
  refine drW (.tail .head) ?_
  exact rC rfl Tryz.isAgg79 Tryz.sizeOf79 rfl .head rfl (le_8.trans (le_10.trans hle3)) (fun _ _ h => h) ⟨rfl, _, rfl, ⟨p3, m, rfl, (hf3.mono (le_10.trans hle3)), hft⟩⟩
theorem fill_FetchResponse {H : Fz} {L : Own} {b : Nat} {ver : Int} {c : TC} {T : Tr} (hT : TreeAt H c T) (hf : Fine T) :
  Fn Tryz.prog 19 [.pointer (some ⟨b, 0, none⟩), .agg (c.cells T).toArray] H ([(b, .cells [.int .i16 ver, .int .i32 0, .int .i16 0, .int .i32 0, .slice none 0 0, .slice none 0 0, .map none].toArray 58 (0, 0))] :: L) (fun _ H' L' => ∃ cs : List Value, L' = [(b, .cells cs.toArray 58 (0, 0))] :: L ∧ At_FetchResponse ver H' T cs) := by
 refine Fn.mk Tryz.call19 Tryz.func19 rfl Tryz.ntmps19 rfl ?_
 refine sr ?_
 refine bx rfl rfl rfl (fun b_1 => ?_)
 refine nl ?_
 refine sr ?_
 refine mv rfl rfl ?_
 refine la (Says.own .head) Tryz.isAgg39 Tryz.sizeOf39 rfl (Nat.zero_add _).symm rfl rfl ?_
 refine cl rfl rfl rfl (m_at (i := 0) hT) rfl (fun v H1 L1 hle hR => ?_)
 obtain ⟨rfl, rfl, c12, rfl, g12⟩ := hR
 refine fc C39_0 rfl rfl rfl ?_
 refine cv Tryz.runUnderlying2 Tryz.runUnderlying21 rfl rfl rfl ?_
 refine nc rfl rfl ?_
 refine fa0 F58_1 rfl rfl ?_
 refine st Tryz.sizeOf21 rfl rfl rfl rfl (.tail .head) ?_
 refine nl ?_
 refine sr ?_
 refine mv rfl rfl ?_
 refine la (Says.own .head) Tryz.isAgg39 Tryz.sizeOf39 rfl (Nat.zero_add _).symm rfl rfl ?_
 refine cl rfl rfl rfl (m_at (i := 1) hT) rfl (fun v H1 L1 hle hR => ?_)
 obtain ⟨rfl, rfl, c19, rfl, g19⟩ := hR
 refine fc C39_0 rfl rfl rfl ?_
 refine cv Tryz.runUnderlying2 Tryz.runUnderlying45 rfl rfl rfl ?_
 refine nc rfl rfl ?_
 refine fa0 F58_2 rfl rfl ?_
 refine st Tryz.sizeOf45 rfl rfl rfl rfl (.tail .head) ?_
 refine nl ?_
 refine sr ?_
 refine mv rfl rfl ?_
 refine la (Says.own .head) Tryz.isAgg39 Tryz.sizeOf39 rfl (Nat.zero_add _).symm rfl rfl ?_
 refine cl rfl rfl rfl (m_at (i := 2) hT) rfl (fun v H1 L1 hle hR => ?_)
 obtain ⟨rfl, rfl, c26, rfl, g26⟩ := hR
 refine fc C39_0 rfl rfl rfl ?_
 refine cv Tryz.runUnderlying2 Tryz.runUnderlying21 rfl rfl rfl ?_
 refine nc rfl rfl ?_
 refine fa0 F58_3 rfl rfl ?_
 refine st Tryz.sizeOf21 rfl rfl rfl rfl (.tail .head) ?_
 refine nl ?_
 refine sq ?_
 refine sr ?_
 refine la (Says.own .head) Tryz.isAgg39 Tryz.sizeOf39 rfl (Nat.zero_add _).symm rfl rfl ?_
 refine cl rfl rfl rfl (m_at (i := 3) hT) rfl (fun v H1 L1 hle hR => ?_)
 obtain ⟨rfl, rfl, c32, rfl, g32⟩ := hR
 refine fc C39_2 rfl rfl rfl ?_
 refine nt rfl rfl ?_
 refine nl ?_
 refine cutT (fun l' H' L' => ∃ (a3 : Option Addr), ∃ (n3 : Nat), ∃ (c3 : Nat), [(0, .pointer (some ⟨b, 0, none⟩)), (3, .pointer (some ⟨b_1, 0, none⟩))] = l' ∧ [(b_1, .cells (c.cells T).toArray 39 (0, 0))] :: [(b, .cells [.int .i16 ver, .int .i32 (IntKind.i32.wrap (T.at 0).n), .int .i16 (IntKind.i16.wrap (T.at 1).n), .int .i32 (IntKind.i32.wrap (T.at 2).n), .slice a3 n3 c3, .slice none 0 0, .map none].toArray 58 (0, 0))] :: L = L' ∧ n3 = (lT (T.at 3)).length ∧ ListAt H' (T.at 3) 19 At_FetchResponseTopic a3 c3) ?_ (fun l' H' L' le_6 hI => ?_)
 ·
  refine cb rfl (fun h34 => ?_) (fun h34 => ?_)
  ·
   have hnu : (T.at 3).nul = false := by simpa using h34
   have hlt : lT (T.at 3) = (T.at 3).l := lT_not hnu
   have hfl := (hf.at 3).len
   refine sr ?_
   refine mv rfl rfl ?_
   refine la (Says.own .head) Tryz.isAgg39 Tryz.sizeOf39 rfl (Nat.zero_add _).symm rfl rfl ?_
   refine cl rfl rfl rfl (m_at (i := 3) hT) rfl (fun v H1 L1 hle hR => ?_)
   obtain ⟨rfl, rfl, c37, rfl, g37⟩ := hR
   refine fc C39_3 rfl rfl rfl ?_
   refine ls Tryz.runUnderlying36 rfl rfl ?_
   refine mks (m := 0) (c := (T.at 3).l.length) (zs := [.string ⟨#[]⟩, .int .u8 0, .int .u8 0, .int .u8 0, .int .u8 0, .int .u8 0, .int .u8 0, .int .u8 0, .int .u8 0, .int .u8 0, .int .u8 0, .int .u8 0, .int .u8 0, .int .u8 0, .int .u8 0, .int .u8 0, .int .u8 0, .slice none 0 0, .map none]) Tryz.underlying52 I75 rfl rfl rfl rfl rfl (by omega) (by omega) (by unfold maxLen; omega) rfl (fun bm40 N40 r40 => ?_)
   refine nc rfl rfl ?_
   refine fa0 F58_4 rfl rfl ?_
   refine st Tryz.sizeOf52 rfl rfl rfl rfl (.tail (.tail .head)) ?_
   refine nl ?_
   refine sr ?_
   refine la (Says.own (.tail .head)) Tryz.isAgg39 Tryz.sizeOf39 rfl (Nat.zero_add _).symm rfl rfl ?_
   refine cl rfl rfl rfl (m_at (i := 3) hT) rfl (fun v H1 L1 hle hR => ?_)
   obtain ⟨rfl, rfl, c44, rfl, g44⟩ := hR
   refine fc C39_3 rfl rfl rfl ?_
   refine ls Tryz.runUnderlying36 rfl rfl ?_
   refine mv rfl rfl ?_
   refine nl ?_
   refine fr ((T.at 3).l.length) (fun k l' H' L' => ∃ (a : Option Addr), ∃ (m : Nat), ∃ (c_ : Nat), ∃ (es : List (KE 19)), ∃ (N : Chunk), [(0, .pointer (some ⟨b, 0, none⟩)), (3, .pointer (some ⟨b_1, 0, none⟩)), (45, .slice c44.la (T.at 3).l.length c44.lc), (46, .int .i64 ((T.at 3).l.length : Int))] = l' ∧ N :: [(b_1, .cells (c.cells T).toArray 39 (0, 0))] :: [(b, .cells [.int .i16 ver, .int .i32 (IntKind.i32.wrap (T.at 0).n), .int .i16 (IntKind.i16.wrap (T.at 1).n), .int .i32 (IntKind.i32.wrap (T.at 2).n), .slice a m c_, .slice none 0 0, .map none].toArray 58 (0, 0))] :: L = L' ∧ Row 75 19 a m c_ (es.flatMap fk) N ∧ m = es.length ∧ (∀ p : KE 19, p ∈ es → At_FetchResponseTopic H' p.2 (fk p)) ∧ es.map (·.2) = ((T.at 3).l.take k).map id ∧ a.isNone = false) [(0, .pointer (some ⟨b, 0, none⟩)), (3, .pointer (some ⟨b_1, 0, none⟩)), (45, .slice c44.la (T.at 3).l.length c44.lc), (46, .int .i64 ((T.at 3).l.length : Int))] (fun k l' H' L' h => ?_) (by omega) rfl (.of ⟨rfl, rfl, rfl, rfl, trivial⟩) ⟨some ⟨bm40, 0, none⟩, 0, _, [], N40, rfl, rfl, r40, rfl, (fun p hp => by cases hp), (by simp), rfl⟩ rfl rfl rfl rfl rfl (fun k l' H' L' hk le_9 hI => ?_) (fun l' H' L' le_10 hI => ?_)
   · obtain ⟨a, m, c_, es, N, rfl, _⟩ := h; exact ⟨rfl, rfl, rfl, rfl⟩
   ·
    obtain ⟨a, m, c_, es, N, rfl, rfl, pk0, pk1, pk2, pk3, pk4⟩ := hI
    refine sr ?_
    obtain ⟨b_11, o_12, e_13, g_14⟩ := (g44.l.mono le_9).at_ (ne_nil_of_lt hk)
    obtain ⟨c_15, q_16, q_17⟩ := g_14 k hk
    refine ix2 Tryz.runUnderlying36 Tryz.sizeOf39 rfl e_13 rfl rfl hk rfl ?_
    refine la (Says.fz q_16) Tryz.isAgg39 Tryz.sizeOf39 rfl (Nat.add_zero _).symm rfl rfl ?_
    refine al Tryz.zeroValue39 rfl rfl (fun b_18 => ?_)
    refine sa Tryz.sizeOf39 rfl rfl rfl rfl rfl .head ?_
    refine nl ?_
    refine rgD 11 (.keep (.skip (.keep (.keep .nil)))) mixed ?_
    refine dU 0 rfl rfl rfl (y_mv rfl) (.keep (.skip (.keep (.keep .nil)))) ler ?_
    refine dU 1 rfl rfl rfl (y_mv rfl) (.keep (.skip (.keep (.keep .nil)))) ler ?_
    refine dU 2 rfl rfl rfl (y_nc rfl) (.keep (.skip (.keep (.keep .nil)))) ler ?_
    refine dU 3 rfl rfl rfl (y_fa0 F58_4 rfl) (.keep (.skip (.keep (.keep .nil)))) ler ?_
    refine dU 4 rfl rfl rfl (y_ld (Says.own (.tail (.tail .head))) Tryz.isAgg52 rfl (Nat.zero_add _).symm rfl) (.keep (.skip (.keep (.keep .nil)))) ler ?_
    refine dU 5 rfl rfl rfl (y_la (Says.own .head) Tryz.isAgg39 Tryz.sizeOf39 rfl (Nat.zero_add _).symm rfl) (.keep (.skip (.keep (.keep .nil)))) ler ?_
    refine dE 6 (by kernel_rfl) rfl ?_
    refine cl rfl rfl rfl (make_FetchResponseTopic q_17 ((hf.at 3).el (List.getElem_mem hk))) rfl (fun v H1 L1 le_19 hR => ?_)
    obtain ⟨rfl, cs57, rfl, g57⟩ := hR
    have ho57 := At_FetchResponseTopic.ok g57
    have gg57 := g57
    obtain ⟨a2e, c2e, mte, rfl, he0, he1⟩ := g57
    refine dN (.keep (.skip (.keep (.keep .nil)))) le_19 ?_
    refine dE 7 (by kernel_rfl) rfl ?_
    refine bs' L52 rfl rfl rfl rfl (fun b_20 => ?_)
    refine dN (.skip (.keep (.skip (.keep (.keep .nil))))) le_19 ?_
    refine dE 8 (by kernel_rfl) rfl ?_
    have hmk : m = k := by have h1 := congrArg List.length pk3; rw [List.length_map, List.length_map, List.length_take] at h1; omega
    refine ap (news := fk ((⟨_, ho57⟩, (T.at 3).l[k]) : KE 19)) Tryz.underlying52 I75 rfl rfl pk0 (fun _ => (.tail (.tail .head))) (src_says Tryz.underlying52 rfl (fun _ => Says.own .head) (fk_one _)) (by omega) (by unfold maxLen; omega) rfl (fun a59 c59 N59 r59 z59 => ?_)
    rw [flatMap_snoc'] at r59
    have hin : a59.isNone = false := by cases a59 with | none => have := z59.1 rfl; omega | some _ => rfl
    refine dN (.skip (.keep (.skip (.keep (.keep .nil))))) le_19 ?_
    refine dE 9 (by kernel_rfl) rfl ?_
    refine nc rfl rfl ?_
    refine dN (.skip (.keep (.skip (.keep (.keep .nil))))) le_19 ?_
    refine dU 10 rfl rfl rfl (y_fa0 F58_4 rfl) (.skip (.keep (.skip (.keep (.keep .nil))))) le_19 ?_
    refine dE 11 (by kernel_rfl) rfl ?_
    refine st Tryz.sizeOf52 rfl rfl rfl rfl (.tail (.tail (.tail (.tail .head)))) ?_
    refine dNk (by kernel_rfl) ?_
    refine dD (by kernel_rfl) ?_
    refine Nb ?_
    refine drN .head ?_
    refine drN .head ?_
    refine fun a_ w_ hA hw => ⟨_, _, _, hA.sub ?_, (le_9.trans le_19), hw, _, rfl, a59, _, c59, (es ++ [((⟨_, ho57⟩, (T.at 3).l[k]) : KE 19)]), N59, rfl, rfl, r59, (by simp; omega), (fun p hp => (mem_snoc hp).elim (fun h => At_FetchResponseTopic.mono _ _ _ _ le_19 (pk2 p h)) (fun h => h ▸ At_FetchResponseTopic.mono _ _ _ _ ler gg57)), (map_take_snoc hk pk3), hin⟩
    exact (.of ⟨rfl, rfl, rfl, rfl, rfl, trivial⟩)
   ·
    obtain ⟨a, m, c_, es, N, rfl, rfl, pk0, pk1, pk2, pk3, pk4⟩ := hI
    refine toNn ?_
    have hm : m = (T.at 3).l.length := by have h1 := congrArg List.length pk3; rw [List.length_map, List.length_map, List.take_length] at h1; omega
    have hfe : es.map (·.2) = (T.at 3).l := by rw [pk3, List.take_length, List.map_id]
    refine frN pk0 .head (fun H2 hle2 hfz => ?_)
    have hrw := RowsAt.row (R := At_FetchResponseTopic) hfz pk1 pk0.le.1 (fun p hp => At_FetchResponseTopic.mono _ _ _ _ hle2 (pk2 p hp))
    rw [hfe, ← hlt] at hrw
    have hnl : m = (lT (T.at 3)).length := by rw [hlt]; exact hm
    have hla : ListAt H2 (T.at 3) 19 At_FetchResponseTopic a c_ := ⟨hrw, by rw [pk4, hnu]⟩
    refine fun a_ w_ hA hw => ⟨_, _, _, hA.sub ?_, (le_10.trans hle2), hw, a, m, c_, rfl, rfl, hnl, hla⟩
    exact (.of ⟨rfl, rfl, trivial⟩)
  ·
   have hnu : (T.at 3).nul = true := by simpa using h34
   refine skN ?_
   refine fun a_ w_ hA hw => ⟨_, _, _, hA.sub ?_, ler, hw, none, 0, 0, rfl, rfl, (by rw [lT_nul hnu]; rfl), (ListAt.none hnu)⟩
   exact (.of ⟨rfl, rfl, trivial⟩)
 ·
  obtain ⟨a3, n3, c3, rfl, rfl, pj0, pj1⟩ := hI
  subst pj0
  have hf3 := pj1
  refine sq ?_
  refine sr ?_
  refine la (Says.own .head) Tryz.isAgg39 Tryz.sizeOf39 rfl (Nat.zero_add _).symm rfl rfl ?_
  refine cl rfl rfl rfl (m_at (i := 4) (hT.mono le_6)) rfl (fun v H1 L1 hle hR => ?_)
  obtain ⟨rfl, rfl, c64, rfl, g64⟩ := hR
  refine fc C39_2 rfl rfl rfl ?_
  refine nt rfl rfl ?_
  refine nl ?_
  refine cutT (fun l' H' L' => ∃ (a4 : Option Addr), ∃ (n4 : Nat), ∃ (c4 : Nat), [(0, .pointer (some ⟨b, 0, none⟩)), (3, .pointer (some ⟨b_1, 0, none⟩))] = l' ∧ [(b_1, .cells (c.cells T).toArray 39 (0, 0))] :: [(b, .cells [.int .i16 ver, .int .i32 (IntKind.i32.wrap (T.at 0).n), .int .i16 (IntKind.i16.wrap (T.at 1).n), .int .i32 (IntKind.i32.wrap (T.at 2).n), .slice a3 (lT (T.at 3)).length c3, .slice a4 n4 c4, .map none].toArray 58 (0, 0))] :: L = L' ∧ n4 = (lT (T.at 4)).length ∧ ListAt H' (T.at 4) 5 At_FetchResponseBroker a4 c4) ?_ (fun l' H' L' le_22 hI => ?_)
  ·
   refine cb rfl (fun h66 => ?_) (fun h66 => ?_)
   ·
    have hnu : (T.at 4).nul = false := by simpa using h66
    have hlt : lT (T.at 4) = (T.at 4).l := lT_not hnu
    have hfl := (hf.at 4).len
    refine sr ?_
    refine mv rfl rfl ?_
    refine la (Says.own .head) Tryz.isAgg39 Tryz.sizeOf39 rfl (Nat.zero_add _).symm rfl rfl ?_
    refine cl rfl rfl rfl (m_at (i := 4) (hT.mono le_6)) rfl (fun v H1 L1 hle hR => ?_)
    obtain ⟨rfl, rfl, c69, rfl, g69⟩ := hR
    refine fc C39_3 rfl rfl rfl ?_
    refine ls Tryz.runUnderlying36 rfl rfl ?_
    refine mks (m := 0) (c := (T.at 4).l.length) (zs := [.int .i32 0, .string ⟨#[]⟩, .int .i32 0, .pointer none, .map none]) Tryz.underlying53 I79 rfl rfl rfl rfl rfl (by omega) (by omega) (by unfold maxLen; omega) rfl (fun bm72 N72 r72 => ?_)
    refine nc rfl rfl ?_
    refine fa0 F58_5 rfl rfl ?_
    refine st Tryz.sizeOf53 rfl rfl rfl rfl (.tail (.tail .head)) ?_
    refine nl ?_
    refine sr ?_
    refine la (Says.own (.tail .head)) Tryz.isAgg39 Tryz.sizeOf39 rfl (Nat.zero_add _).symm rfl rfl ?_
    refine cl rfl rfl rfl (m_at (i := 4) (hT.mono le_6)) rfl (fun v H1 L1 hle hR => ?_)
    obtain ⟨rfl, rfl, c76, rfl, g76⟩ := hR
    refine fc C39_3 rfl rfl rfl ?_
    refine ls Tryz.runUnderlying36 rfl rfl ?_
    refine mv rfl rfl ?_
    refine nl ?_
    refine fr ((T.at 4).l.length) (fun k l' H' L' => ∃ (a : Option Addr), ∃ (m : Nat), ∃ (c_ : Nat), ∃ (es : List (KE 5)), ∃ (N : Chunk), [(0, .pointer (some ⟨b, 0, none⟩)), (3, .pointer (some ⟨b_1, 0, none⟩)), (77, .slice c76.la (T.at 4).l.length c76.lc), (78, .int .i64 ((T.at 4).l.length : Int))] = l' ∧ N :: [(b_1, .cells (c.cells T).toArray 39 (0, 0))] :: [(b, .cells [.int .i16 ver, .int .i32 (IntKind.i32.wrap (T.at 0).n), .int .i16 (IntKind.i16.wrap (T.at 1).n), .int .i32 (IntKind.i32.wrap (T.at 2).n), .slice a3 (lT (T.at 3)).length c3, .slice a m c_, .map none].toArray 58 (0, 0))] :: L = L' ∧ Row 79 5 a m c_ (es.flatMap fk) N ∧ m = es.length ∧ (∀ p : KE 5, p ∈ es → At_FetchResponseBroker H' p.2 (fk p)) ∧ es.map (·.2) = ((T.at 4).l.take k).map id ∧ a.isNone = false) [(0, .pointer (some ⟨b, 0, none⟩)), (3, .pointer (some ⟨b_1, 0, none⟩)), (77, .slice c76.la (T.at 4).l.length c76.lc), (78, .int .i64 ((T.at 4).l.length : Int))] (fun k l' H' L' h => ?_) (by omega) rfl (.of ⟨rfl, rfl, rfl, rfl, trivial⟩) ⟨some ⟨bm72, 0, none⟩, 0, _, [], N72, rfl, rfl, r72, rfl, (fun p hp => by cases hp), (by simp), rfl⟩ rfl rfl rfl rfl rfl (fun k l' H' L' hk le_25 hI => ?_) (fun l' H' L' le_26 hI => ?_)
    · obtain ⟨a, m, c_, es, N, rfl, _⟩ := h; exact ⟨rfl, rfl, rfl, rfl⟩
    ·
     obtain ⟨a, m, c_, es, N, rfl, rfl, pk0, pk1, pk2, pk3, pk4⟩ := hI
     refine sr ?_
     obtain ⟨b_27, o_28, e_29, g_30⟩ := (g76.l.mono le_25).at_ (ne_nil_of_lt hk)
     obtain ⟨c_31, q_32, q_33⟩ := g_30 k hk
     refine ix2 Tryz.runUnderlying36 Tryz.sizeOf39 rfl e_29 rfl rfl hk rfl ?_
     refine la (Says.fz q_32) Tryz.isAgg39 Tryz.sizeOf39 rfl (Nat.add_zero _).symm rfl rfl ?_
     refine al Tryz.zeroValue39 rfl rfl (fun b_34 => ?_)
     refine sa Tryz.sizeOf39 rfl rfl rfl rfl rfl .head ?_
     refine nl ?_
     refine rgD 11 (.keep (.skip (.keep (.keep .nil)))) mixed ?_
     refine dU 0 rfl rfl rfl (y_mv rfl) (.keep (.skip (.keep (.keep .nil)))) ler ?_
     refine dU 1 rfl rfl rfl (y_mv rfl) (.keep (.skip (.keep (.keep .nil)))) ler ?_
     refine dU 2 rfl rfl rfl (y_nc rfl) (.keep (.skip (.keep (.keep .nil)))) ler ?_
     refine dU 3 rfl rfl rfl (y_fa0 F58_5 rfl) (.keep (.skip (.keep (.keep .nil)))) ler ?_
     refine dU 4 rfl rfl rfl (y_ld (Says.own (.tail (.tail .head))) Tryz.isAgg53 rfl (Nat.zero_add _).symm rfl) (.keep (.skip (.keep (.keep .nil)))) ler ?_
     refine dU 5 rfl rfl rfl (y_la (Says.own .head) Tryz.isAgg39 Tryz.sizeOf39 rfl (Nat.zero_add _).symm rfl) (.keep (.skip (.keep (.keep .nil)))) ler ?_
     refine dE 6 (by kernel_rfl) rfl ?_
     refine cl rfl rfl rfl (make_FetchResponseBroker q_33 ((hf.at 4).el (List.getElem_mem hk))) rfl (fun v H1 L1 le_35 hR => ?_)
     obtain ⟨rfl, cs89, rfl, g89⟩ := hR
     have ho89 := At_FetchResponseBroker.ok g89
     have gg89 := g89
     obtain ⟨p3e, mte, rfl, he0, he1⟩ := g89
     refine dN (.keep (.skip (.keep (.keep .nil)))) le_35 ?_
     refine dE 7 (by kernel_rfl) rfl ?_
     refine bs' L53 rfl rfl rfl rfl (fun b_36 => ?_)
     refine dN (.skip (.keep (.skip (.keep (.keep .nil))))) le_35 ?_
     refine dE 8 (by kernel_rfl) rfl ?_
     have hmk : m = k := by have h1 := congrArg List.length pk3; rw [List.length_map, List.length_map, List.length_take] at h1; omega
     refine ap (news := fk ((⟨_, ho89⟩, (T.at 4).l[k]) : KE 5)) Tryz.underlying53 I79 rfl rfl pk0 (fun _ => (.tail (.tail .head))) (src_says Tryz.underlying53 rfl (fun _ => Says.own .head) (fk_one _)) (by omega) (by unfold maxLen; omega) rfl (fun a91 c91 N91 r91 z91 => ?_)
     rw [flatMap_snoc'] at r91
     have hin : a91.isNone = false := by cases a91 with | none => have := z91.1 rfl; omega | some _ => rfl
     refine dN (.skip (.keep (.skip (.keep (.keep .nil))))) le_35 ?_
     refine dE 9 (by kernel_rfl) rfl ?_
     refine nc rfl rfl ?_
     refine dN (.skip (.keep (.skip (.keep (.keep .nil))))) le_35 ?_
     refine dU 10 rfl rfl rfl (y_fa0 F58_5 rfl) (.skip (.keep (.skip (.keep (.keep .nil))))) le_35 ?_
     refine dE 11 (by kernel_rfl) rfl ?_
     refine st Tryz.sizeOf53 rfl rfl rfl rfl (.tail (.tail (.tail (.tail .head)))) ?_
     refine dNk (by kernel_rfl) ?_
     refine dD (by kernel_rfl) ?_
     refine Nb ?_
     refine drN .head ?_
     refine drN .head ?_
     refine fun a_ w_ hA hw => ⟨_, _, _, hA.sub ?_, (le_25.trans le_35), hw, _, rfl, a91, _, c91, (es ++ [((⟨_, ho89⟩, (T.at 4).l[k]) : KE 5)]), N91, rfl, rfl, r91, (by simp; omega), (fun p hp => (mem_snoc hp).elim (fun h => At_FetchResponseBroker.mono _ _ _ _ le_35 (pk2 p h)) (fun h => h ▸ At_FetchResponseBroker.mono _ _ _ _ ler gg89)), (map_take_snoc hk pk3), hin⟩
     exact (.of ⟨rfl, rfl, rfl, rfl, rfl, trivial⟩)
    ·
     obtain ⟨a, m, c_, es, N, rfl, rfl, pk0, pk1, pk2, pk3, pk4⟩ := hI
     refine toNn ?_
     have hm : m = (T.at 4).l.length := by have h1 := congrArg List.length pk3; rw [List.length_map, List.length_map, List.take_length] at h1; omega
     have hfe : es.map (·.2) = (T.at 4).l := by rw [pk3, List.take_length, List.map_id]
     refine frN pk0 .head (fun H2 hle2 hfz => ?_)
     have hrw := RowsAt.row (R := At_FetchResponseBroker) hfz pk1 pk0.le.1 (fun p hp => At_FetchResponseBroker.mono _ _ _ _ hle2 (pk2 p hp))
     rw [hfe, ← hlt] at hrw
     have hnl : m = (lT (T.at 4)).length := by rw [hlt]; exact hm
     have hla : ListAt H2 (T.at 4) 5 At_FetchResponseBroker a c_ := ⟨hrw, by rw [pk4, hnu]⟩
     refine fun a_ w_ hA hw => ⟨_, _, _, hA.sub ?_, (le_26.trans hle2), hw, a, m, c_, rfl, rfl, hnl, hla⟩
     exact (.of ⟨rfl, rfl, trivial⟩)
   ·
    have hnu : (T.at 4).nul = true := by simpa using h66
    refine skN ?_
    refine fun a_ w_ hA hw => ⟨_, _, _, hA.sub ?_, ler, hw, none, 0, 0, rfl, rfl, (by rw [lT_nul hnu]; rfl), (ListAt.none hnu)⟩
    exact (.of ⟨rfl, rfl, trivial⟩)
  ·
   obtain ⟨a4, n4, c4, rfl, rfl, pj0, pj1⟩ := hI
   subst pj0
   have hf4 := pj1
   refine sr ?_
   refine fa0 F39_4 rfl rfl ?_
   refine ld (Says.own .head) Tryz.isAgg37 rfl (Nat.zero_add _).symm rfl rfl ?_
   refine ls Tryz.runUnderlying37 rfl rfl ?_
   refine mv rfl rfl ?_
   refine nl ?_
   refine nulC2 ?_
   have hun := hf.un
   refine fr (T.u.length) (fun q l' H' L' => ∃ (m : Option Nat), ∃ (kvs : List KV), ∃ (M : Chunk), [(0, .pointer (some ⟨b, 0, none⟩)), (96, .slice c.ua T.u.length c.uc), (97, .int .i64 (T.u.length : Int))] = l' ∧ M :: [(b_1, .cells (c.cells T).toArray 39 (0, 0))] :: [(b, .cells [.int .i16 ver, .int .i32 (IntKind.i32.wrap (T.at 0).n), .int .i16 (IntKind.i16.wrap (T.at 1).n), .int .i32 (IntKind.i32.wrap (T.at 2).n), .slice a3 (lT (T.at 3)).length c3, .slice a4 (lT (T.at 4)).length c4, .map m].toArray 58 (0, 0))] :: L = L' ∧ MapC m kvs M ∧ KvTo H' (T.u.take q) kvs ∧ (m = none ∨ 0 < q)) [(0, .pointer (some ⟨b, 0, none⟩)), (96, .slice c.ua T.u.length c.uc), (97, .int .i64 (T.u.length : Int))] (fun q l' H' L' h => ?_) (by omega) rfl (.of ⟨rfl, rfl, rfl, trivial⟩) ⟨none, [], [], rfl, rfl, MapC.nil, (KvTo.nil _), (.inl rfl)⟩ rfl rfl rfl rfl rfl (fun q l' H' L' hq le_37 hI => ?_) (fun l' H' L' le_38 hI => ?_)
   · obtain ⟨m, kvs, M, rfl, _⟩ := h; exact ⟨rfl, rfl, rfl, rfl⟩
   ·
    obtain ⟨m, kvs, M, rfl, rfl, pq0, pq1, pq2⟩ := hI
    refine sr ?_
    obtain ⟨b_39, o_40, e_41, g_42⟩ := (hT.u.mono (le_6.trans (le_22.trans le_37))).at_ (ne_nil_of_lt hq)
    obtain ⟨c_43, q_44, q_45⟩ := g_42 q hq
    refine ix2 Tryz.runUnderlying37 Tryz.sizeOf65 rfl e_41 rfl rfl hq rfl ?_
    refine la (Says.fz q_44) Tryz.isAgg65 Tryz.sizeOf65 rfl (Nat.add_zero _).symm rfl rfl ?_
    refine al Tryz.zeroValue65 rfl rfl (fun b_46 => ?_)
    refine sa Tryz.sizeOf65 rfl rfl rfl rfl rfl .head ?_
    refine nl ?_
    refine rgD 8 (.keep (.skip (.keep .nil))) mixed ?_
    refine dU 0 rfl rfl rfl (y_mv rfl) (.keep (.skip (.keep .nil))) ler ?_
    refine dU 1 rfl rfl rfl (y_nc rfl) (.keep (.skip (.keep .nil))) ler ?_
    refine dU 2 rfl rfl rfl (y_fa0 F58_6 rfl) (.keep (.skip (.keep .nil))) ler ?_
    refine dU 3 rfl rfl rfl (y_fa0 F65_0 rfl) (.keep (.skip (.keep .nil))) ler ?_
    refine dU 4 rfl rfl rfl (y_ld (Says.own .head) Tryz.isAgg62 rfl (Nat.zero_add _).symm rfl) (.keep (.skip (.keep .nil))) ler ?_
    refine dU 5 rfl rfl rfl (y_fa0 F65_1 rfl) (.keep (.skip (.keep .nil))) ler ?_
    refine dU 6 rfl rfl rfl (y_ld (Says.own .head) Tryz.isAgg22 rfl (Nat.zero_add _).symm rfl) (.keep (.skip (.keep .nil))) ler ?_
    refine dE 7 (by kernel_rfl) rfl ?_
    refine tf (.tail (.tail (.tail .head))) ?_
    refine tf (.tail (.tail .head)) ?_
    refine cl rfl rfl rfl (t_set (cs := [.int .i16 ver, .int .i32 (IntKind.i32.wrap (T.at 0).n), .int .i16 (IntKind.i16.wrap (T.at 1).n), .int .i32 (IntKind.i32.wrap (T.at 2).n), .slice a3 (lT (T.at 3)).length c3, .slice a4 (lT (T.at 4)).length c4, .map m]) (off := 6) pq0 rfl) rfl (fun v H1 L1 hle hR => ?_)
    obtain ⟨rfl, g109, cs109, hs109, rfl⟩ := hR
    obtain rfl : [.int .i16 ver, .int .i32 (IntKind.i32.wrap (T.at 0).n), .int .i16 (IntKind.i16.wrap (T.at 1).n), .int .i32 (IntKind.i32.wrap (T.at 2).n), .slice a3 (lT (T.at 3)).length c3, .slice a4 (lT (T.at 4)).length c4, .map (some g109)] = cs109 := Option.some.inj hs109
    refine dN (.skip (.skip (.keep (.keep .nil)))) ler ?_
    refine dD (by kernel_rfl) ?_
    refine Nb ?_
    refine drN (.tail (.tail .head)) ?_
    refine tfN (.tail .head) ?_
    refine tfN (.tail (.tail .head)) ?_
    refine tfN (.tail (.tail .head)) ?_
    refine fun a_ w_ hA hw => ⟨_, _, _, hA.sub ?_, le_37, hw, _, rfl, _, _, [(g109, _)], rfl, rfl, (.inr ⟨g109, rfl, rfl⟩), (KvTo.put hf.u (List.getElem?_eq_getElem hq) pq1 (⟨⟨_, _, rfl, q_45.val⟩, q_45.lo, q_45.hi⟩)), (.inr (Nat.succ_pos _))⟩
    exact (.of ⟨rfl, rfl, rfl, rfl, trivial⟩)
   ·
    obtain ⟨m, kvs, M, rfl, rfl, pq0, pq1, pq2⟩ := hI
    refine toNn ?_
    rw [List.take_length] at pq1
    refine frMN pq0 .head (fun H3 hle3 hmf => ?_)
    have hft : KvAtN _ m T.u := ⟨KvTo.at_ hf.u (pq1.mono hle3) hmf, fun h => by rw [h] at pq2; rcases pq2 with h2 | h2; exact h2; exact absurd h2 (by simp)⟩
    refine drN .head ?_
    exact fun _ _ hA hw => rn rfl (le_6.trans (le_22.trans (le_38.trans hle3))) ⟨_, rfl, ⟨a3, c3, a4, c4, m, rfl, (hf3.mono At_FetchResponseTopic.mono (le_22.trans (le_38.trans hle3))), (hf4.mono At_FetchResponseBroker.mono (le_38.trans hle3)), hft⟩⟩ hA hw
end Go.Sx

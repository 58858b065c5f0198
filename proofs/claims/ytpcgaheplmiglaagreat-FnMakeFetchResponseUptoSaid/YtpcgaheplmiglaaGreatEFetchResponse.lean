import Derived.Test.YtpcgaheplmiglaaGreatSxTab
import Derived.Test.YtpcgaheplmiglaaGreatAFetchResponse
import Derived.Test.YtpcgaheplmiglaaGreatTagF
import Derived.Test.YtpcgaheplmiglaaGreatLibG
import Derived.Test.YtpcgaheplmiglaaGreatLibH
import Derived.KernelRfl
set_option linter.unusedVariables false
set_option linter.unusedSimpArgs false
set_option maxRecDepth 100000
set_option maxHeartbeats 20000000
namespace Go.Sx
open Go.Proofs
theorem zs_tags {H : Fz} {L : Own} {m : Option Nat} :
  Fn Tryz.prog 81 [.agg #[.map m], .agg #[.map none]] H L (fun v H' L' => H = H' ∧ L = L' ∧ v = .bool m.isNone) := by
 rcases m with _ | g
 ·
  refine Fn.mk Tryz.call81 Tryz.func81 rfl Tryz.ntmps81 rfl ?_
  refine sr ?_
  refine bx rfl rfl rfl (fun b_1 => ?_)
  refine bx rfl rfl rfl (fun b_2 => ?_)
  refine asg rfl rfl ?_
  refine nl ?_
  refine sq ?_
  refine sr ?_
  refine fa0 F56_0 rfl rfl ?_
  refine ld (Says.own (.tail .head)) Tryz.isAgg54 rfl (Nat.zero_add _).symm rfl rfl ?_
  refine emn Tryz.underlying54 rfl rfl ?_
  refine fa0 F56_0 rfl rfl ?_
  refine ld (Says.own .head) Tryz.isAgg54 rfl (Nat.zero_add _).symm rfl rfl ?_
  refine emn Tryz.underlying54 rfl rfl ?_
  refine nebG Tryz.underlying4 rfl rfl rfl ?_
  refine mv rfl rfl ?_
  refine gr rfl rfl ?_
  refine fa0 F56_0 rfl rfl ?_
  refine gr rfl rfl ?_
  refine ld (Says.own (.tail .head)) Tryz.isAgg54 rfl (Nat.zero_add _).symm rfl rfl ?_
  refine gr rfl rfl ?_
  refine lmn Tryz.underlying54 rfl (MapF.nil _) rfl ?_
  refine gr rfl rfl ?_
  refine fa0 F56_0 rfl rfl ?_
  refine gr rfl rfl ?_
  refine ld (Says.own .head) Tryz.isAgg54 rfl (Nat.zero_add _).symm rfl rfl ?_
  refine gr rfl rfl ?_
  refine lmn Tryz.underlying54 rfl (MapF.nil _) rfl ?_
  refine gr rfl rfl ?_
  refine ne' rfl rfl rfl ?_
  refine pkF rfl rfl rfl rfl ?_
  refine nl ?_
  refine cF rfl ?_
  refine skt ?_
  refine sq ?_
  refine sr ?_
  refine fa0 F56_0 rfl rfl ?_
  refine ld (Says.own (.tail .head)) Tryz.isAgg54 rfl (Nat.zero_add _).symm rfl rfl ?_
  refine rgn Tryz.underlying54 rfl rfl (fun r_ => ?_)
  refine nl ?_
  refine bl (lp 0 (fun _ l' H' L' => [(27, .pointer (some ⟨r_, 0, none⟩))] = l' ∧ [(r_, .mapIter none 0 #[] 0)] :: [(b_2, .cells [.map none].toArray 56 (0, 0))] :: [(b_1, .cells [.map none].toArray 56 (0, 0))] :: L = L' ∧ H = H') [(27, .pointer (some ⟨r_, 0, none⟩))] (.of ⟨rfl, trivial⟩) ⟨rfl, rfl, rfl⟩ (fun k l' H' L' _ le0 hI => ?_))
  obtain ⟨rfl, rfl, rfl⟩ := hI
  refine sr ?_
  refine nxn rfl .head rfl ?_
  refine extr rfl rfl rfl ?_
  refine nl ?_
  refine sq ?_
  refine cF rfl ?_
  refine exX ?_
  refine XT ?_
  refine XT ?_
  refine Xb ?_
  refine Nt ?_
  refine sr ?_
  refine asg rfl rfl ?_
  refine nl ?_
  refine drW .head ?_
  refine drW .head ?_
  refine drW .head ?_
  exact rT rfl rfl ler (fun _ _ h => h) ⟨rfl, rfl, rfl⟩
 ·
  refine Fn.mk Tryz.call81 Tryz.func81 rfl Tryz.ntmps81 rfl ?_
  refine sr ?_
  refine bx rfl rfl rfl (fun b_1 => ?_)
  refine bx rfl rfl rfl (fun b_2 => ?_)
  refine asg rfl rfl ?_
  refine nl ?_
  refine sq ?_
  refine sr ?_
  refine fa0 F56_0 rfl rfl ?_
  refine ld (Says.own (.tail .head)) Tryz.isAgg54 rfl (Nat.zero_add _).symm rfl rfl ?_
  refine emn Tryz.underlying54 rfl rfl ?_
  refine fa0 F56_0 rfl rfl ?_
  refine ld (Says.own .head) Tryz.isAgg54 rfl (Nat.zero_add _).symm rfl rfl ?_
  refine emn Tryz.underlying54 rfl rfl ?_
  refine nebG Tryz.underlying4 rfl rfl rfl ?_
  refine mv rfl rfl ?_
  refine gs rfl rfl rfl rfl ?_
  refine gs rfl rfl rfl rfl ?_
  refine gs rfl rfl rfl rfl ?_
  refine gs rfl rfl rfl rfl ?_
  refine gs rfl rfl rfl rfl ?_
  refine gs rfl rfl rfl rfl ?_
  refine gs rfl rfl rfl rfl ?_
  refine pkT rfl rfl rfl rfl ?_
  refine nl ?_
  refine cT rfl ?_
  refine sr ?_
  refine asg rfl rfl ?_
  refine nl ?_
  refine drW .head ?_
  refine drW .head ?_
  exact rT rfl rfl ler (fun _ _ h => h) ⟨rfl, rfl, rfl⟩
theorem zs_FetchResponseTopicPartitionDivergingEpoch {H : Fz} {L : Own} {a0 a1 b0 b1 : Int} {m : Option Nat} :
  Fn Tryz.prog 48 [.agg #[.int .i32 a0, .int .i64 a1, .map m], .agg #[.int .i32 b0, .int .i64 b1, .map none]] H L (fun v H' L' => H = H' ∧ L = L' ∧ v = .bool (decide (a0 = b0) && decide (a1 = b1) && m.isNone)) := by
 refine Fn.mk Tryz.call48 Tryz.func48 rfl Tryz.ntmps48 rfl ?_
 refine sr ?_
 refine bx rfl rfl rfl (fun b_1 => ?_)
 refine bx rfl rfl rfl (fun b_2 => ?_)
 refine asg rfl rfl ?_
 refine nl ?_
 refine sr ?_
 refine fa0 F90_0 rfl rfl ?_
 refine ld (Says.own (.tail .head)) Tryz.isAgg21 rfl (Nat.zero_add _).symm rfl rfl ?_
 refine fa0 F90_0 rfl rfl ?_
 refine ld (Says.own .head) Tryz.isAgg21 rfl (Nat.zero_add _).symm rfl rfl ?_
 refine eq' rfl rfl rfl ?_
 refine mv rfl rfl ?_
 refine spl (t := 10) rfl (fun h10 => ?_) (fun h10 => ?_)
 ·
  refine gr rfl rfl ?_
  refine fa0 F90_1 rfl rfl ?_
  refine gr rfl rfl ?_
  refine ld (Says.own (.tail .head)) Tryz.isAgg2 rfl (Nat.zero_add _).symm rfl rfl ?_
  refine gr rfl rfl ?_
  refine fa0 F90_1 rfl rfl ?_
  refine gr rfl rfl ?_
  refine ld (Says.own .head) Tryz.isAgg2 rfl (Nat.zero_add _).symm rfl rfl ?_
  refine gr rfl rfl ?_
  refine eq' rfl rfl rfl ?_
  refine pkT rfl rfl rfl rfl ?_
  refine mv rfl rfl ?_
  refine spl (t := 17) rfl (fun h17 => ?_) (fun h17 => ?_)
  ·
   refine gr rfl rfl ?_
   refine fa0 F90_2 rfl rfl ?_
   refine gr rfl rfl ?_
   refine la (Says.own (.tail .head)) Tryz.isAgg56 Tryz.sizeOf56 rfl (Nat.zero_add _).symm rfl rfl ?_
   refine gr rfl rfl ?_
   refine fa0 F90_2 rfl rfl ?_
   refine gr rfl rfl ?_
   refine la (Says.own .head) Tryz.isAgg56 Tryz.sizeOf56 rfl (Nat.zero_add _).symm rfl rfl ?_
   refine gr rfl rfl ?_
   refine cl rfl rfl rfl zs_tags rfl (fun v_ H1 L1 hle hR => ?_)
   obtain ⟨rfl, rfl, rfl⟩ := hR
   refine pkT rfl rfl rfl rfl ?_
   refine asg rfl rfl ?_
   refine nl ?_
   refine drW .head ?_
   refine drW .head ?_
   exact rT rfl rfl ler (fun _ _ h => h) ⟨rfl, rfl, by rw [decide_eq_true h10, decide_eq_true h17]; rfl⟩
  ·
   refine gs rfl rfl rfl rfl ?_
   refine gs rfl rfl rfl rfl ?_
   refine gs rfl rfl rfl rfl ?_
   refine gs rfl rfl rfl rfl ?_
   refine gs rfl rfl rfl rfl ?_
   refine pkF rfl rfl rfl rfl ?_
   refine asg rfl rfl ?_
   refine nl ?_
   refine drW .head ?_
   refine drW .head ?_
   exact rT rfl rfl ler (fun _ _ h => h) ⟨rfl, rfl, by rw [decide_eq_true h10, decide_eq_false h17]; rfl⟩
 ·
  refine gs rfl rfl rfl rfl ?_
  refine gs rfl rfl rfl rfl ?_
  refine gs rfl rfl rfl rfl ?_
  refine gs rfl rfl rfl rfl ?_
  refine gs rfl rfl rfl rfl ?_
  refine pkF rfl rfl rfl rfl ?_
  refine mv rfl rfl ?_
  refine gs rfl rfl rfl rfl ?_
  refine gs rfl rfl rfl rfl ?_
  refine gs rfl rfl rfl rfl ?_
  refine gs rfl rfl rfl rfl ?_
  refine gs rfl rfl rfl rfl ?_
  refine pkF rfl rfl rfl rfl ?_
  refine asg rfl rfl ?_
  refine nl ?_
  refine drW .head ?_
  refine drW .head ?_
  exact rT rfl rfl ler (fun _ _ h => h) ⟨rfl, rfl, by rw [decide_eq_false h10]; rfl⟩
theorem def0_FetchResponseTopicPartitionDivergingEpoch {H : Fz} {L : Own} {b : Nat} {c0 c1 c2 : Value} :
  Fn Tryz.prog 50 [.pointer (some ⟨b, 0, none⟩)] H ([(b, .cells [c0, c1, c2].toArray 90 (0, 0))] :: L) (fun _ H' L' => H = H' ∧ L' = [(b, .cells [.int .i32 (-1), .int .i64 (-1), c2].toArray 90 (0, 0))] :: L) := by
 refine Fn.mk Tryz.call50 Tryz.func50 rfl Tryz.ntmps50 rfl ?_
 refine sr ?_
 refine mv rfl rfl ?_
 refine nc rfl rfl ?_
 refine fa0 F90_0 rfl rfl ?_
 refine st Tryz.sizeOf21 rfl rfl rfl rfl .head ?_
 refine nl ?_
 refine rg ?_
 refine mv rfl rfl ?_
 refine nc rfl rfl ?_
 refine fa0 F90_1 rfl rfl ?_
 refine st Tryz.sizeOf2 rfl rfl rfl rfl .head ?_
 refine nN ?_
 exact fun _ _ hA hw => rn rfl ler ⟨rfl, rfl⟩ hA hw
theorem clo_49 {H : Fz} {L : Own} :
  Fn Tryz.prog 49 [] H L (fun v H' L' => H = H' ∧ L = L' ∧ v = .agg #[.int .i32 (-1), .int .i64 (-1), .map none]) := by
 refine Fn.mk Tryz.call49 Tryz.func49 rfl Tryz.ntmps49 rfl ?_
 refine sr ?_
 refine al Tryz.zeroValue90 rfl rfl (fun b_1 => ?_)
 refine nl ?_
 refine sr ?_
 refine al Tryz.zeroValue90 rfl rfl (fun b_2 => ?_)
 refine nl ?_
 refine sr ?_
 refine cl rfl rfl rfl def0_FetchResponseTopicPartitionDivergingEpoch rfl (fun v_ H1 L1 hle hR => ?_)
 obtain ⟨rfl, rfl⟩ := hR
 refine nl ?_
 refine sr ?_
 refine la (Says.own .head) Tryz.isAgg90 Tryz.sizeOf90 rfl (Nat.zero_add _).symm rfl rfl ?_
 refine sa Tryz.sizeOf90 rfl rfl rfl rfl rfl (.tail .head) ?_
 refine nl ?_
 refine drW .head ?_
 exact rC rfl Tryz.isAgg90 Tryz.sizeOf90 rfl .head rfl ler (fun _ _ h => h) ⟨rfl, rfl, rfl⟩
theorem us_FetchResponseTopicPartitionDivergingEpoch {F : Fd} {x : Tr} (hk : F.kind = 10) (hs : F.sub = fs_sFetchResponseTopicPartitionDivergingEpoch) (hR : RanN x) (hu : unknown fs_sFetchResponseTopicPartitionDivergingEpoch x.u = x.u) : fieldU F x = (decide (IntKind.i32.wrap (x.at 0).n = -1) && decide ((x.at 1).n = -1) && x.u.isEmpty) := by
 have h0 : fieldU (Fd.mk 3 0 (-1) (-1) (-1) (-1) 0 []) (x.at 0) = decide (IntKind.i32.wrap (x.at 0).n = -1) := FU_i32 rfl
 have h1 : fieldU (Fd.mk 4 0 (-1) (-1) (-1) (-1) 0 []) (x.at 1) = decide ((x.at 1).n = -1) := FU_i64 rfl (hR.at 1).n (by decide)
 rw [FU_part hk, hs, hu]
 show (fieldU (Fd.mk 3 0 (-1) (-1) (-1) (-1) 0 []) (x.at 0) && (fieldU (Fd.mk 4 0 (-1) (-1) (-1) (-1) 0 []) (x.at 1) && true) && _) = _
 rw [Bool.and_true, h0, h1]
theorem zs_FetchResponseTopicPartitionCurrentLeader {H : Fz} {L : Own} {a0 a1 b0 b1 : Int} {m : Option Nat} :
  Fn Tryz.prog 51 [.agg #[.int .i32 a0, .int .i32 a1, .map m], .agg #[.int .i32 b0, .int .i32 b1, .map none]] H L (fun v H' L' => H = H' ∧ L = L' ∧ v = .bool (decide (a0 = b0) && decide (a1 = b1) && m.isNone)) := by
 refine Fn.mk Tryz.call51 Tryz.func51 rfl Tryz.ntmps51 rfl ?_
 refine sr ?_
 refine bx rfl rfl rfl (fun b_1 => ?_)
 refine bx rfl rfl rfl (fun b_2 => ?_)
 refine asg rfl rfl ?_
 refine nl ?_
 refine sr ?_
 refine fa0 F92_0 rfl rfl ?_
 refine ld (Says.own (.tail .head)) Tryz.isAgg21 rfl (Nat.zero_add _).symm rfl rfl ?_
 refine fa0 F92_0 rfl rfl ?_
 refine ld (Says.own .head) Tryz.isAgg21 rfl (Nat.zero_add _).symm rfl rfl ?_
 refine eq' rfl rfl rfl ?_
 refine mv rfl rfl ?_
 refine spl (t := 10) rfl (fun h10 => ?_) (fun h10 => ?_)
 ·
  refine gr rfl rfl ?_
  refine fa0 F92_1 rfl rfl ?_
  refine gr rfl rfl ?_
  refine ld (Says.own (.tail .head)) Tryz.isAgg21 rfl (Nat.zero_add _).symm rfl rfl ?_
  refine gr rfl rfl ?_
  refine fa0 F92_1 rfl rfl ?_
  refine gr rfl rfl ?_
  refine ld (Says.own .head) Tryz.isAgg21 rfl (Nat.zero_add _).symm rfl rfl ?_
  refine gr rfl rfl ?_
  refine eq' rfl rfl rfl ?_
  refine pkT rfl rfl rfl rfl ?_
  refine mv rfl rfl ?_
  refine spl (t := 17) rfl (fun h17 => ?_) (fun h17 => ?_)
  ·
   refine gr rfl rfl ?_
   refine fa0 F92_2 rfl rfl ?_
   refine gr rfl rfl ?_
   refine la (Says.own (.tail .head)) Tryz.isAgg56 Tryz.sizeOf56 rfl (Nat.zero_add _).symm rfl rfl ?_
   refine gr rfl rfl ?_
   refine fa0 F92_2 rfl rfl ?_
   refine gr rfl rfl ?_
   refine la (Says.own .head) Tryz.isAgg56 Tryz.sizeOf56 rfl (Nat.zero_add _).symm rfl rfl ?_
   refine gr rfl rfl ?_
   refine cl rfl rfl rfl zs_tags rfl (fun v_ H1 L1 hle hR => ?_)
   obtain ⟨rfl, rfl, rfl⟩ := hR
   refine pkT rfl rfl rfl rfl ?_
   refine asg rfl rfl ?_
   refine nl ?_
   refine drW .head ?_
   refine drW .head ?_
   exact rT rfl rfl ler (fun _ _ h => h) ⟨rfl, rfl, by rw [decide_eq_true h10, decide_eq_true h17]; rfl⟩
  ·
   refine gs rfl rfl rfl rfl ?_
   refine gs rfl rfl rfl rfl ?_
   refine gs rfl rfl rfl rfl ?_
   refine gs rfl rfl rfl rfl ?_
   refine gs rfl rfl rfl rfl ?_
   refine pkF rfl rfl rfl rfl ?_
   refine asg rfl rfl ?_
   refine nl ?_
   refine drW .head ?_
   refine drW .head ?_
   exact rT rfl rfl ler (fun _ _ h => h) ⟨rfl, rfl, by rw [decide_eq_true h10, decide_eq_false h17]; rfl⟩
 ·
  refine gs rfl rfl rfl rfl ?_
  refine gs rfl rfl rfl rfl ?_
  refine gs rfl rfl rfl rfl ?_
  refine gs rfl rfl rfl rfl ?_
  refine gs rfl rfl rfl rfl ?_
  refine pkF rfl rfl rfl rfl ?_
  refine mv rfl rfl ?_
  refine gs rfl rfl rfl rfl ?_
  refine gs rfl rfl rfl rfl ?_
  refine gs rfl rfl rfl rfl ?_
  refine gs rfl rfl rfl rfl ?_
  refine gs rfl rfl rfl rfl ?_
  refine pkF rfl rfl rfl rfl ?_
  refine asg rfl rfl ?_
  refine nl ?_
  refine drW .head ?_
  refine drW .head ?_
  exact rT rfl rfl ler (fun _ _ h => h) ⟨rfl, rfl, by rw [decide_eq_false h10]; rfl⟩
theorem def0_FetchResponseTopicPartitionCurrentLeader {H : Fz} {L : Own} {b : Nat} {c0 c1 c2 : Value} :
  Fn Tryz.prog 53 [.pointer (some ⟨b, 0, none⟩)] H ([(b, .cells [c0, c1, c2].toArray 92 (0, 0))] :: L) (fun _ H' L' => H = H' ∧ L' = [(b, .cells [.int .i32 (-1), .int .i32 (-1), c2].toArray 92 (0, 0))] :: L) := by
 refine Fn.mk Tryz.call53 Tryz.func53 rfl Tryz.ntmps53 rfl ?_
 refine sr ?_
 refine mv rfl rfl ?_
 refine nc rfl rfl ?_
 refine fa0 F92_0 rfl rfl ?_
 refine st Tryz.sizeOf21 rfl rfl rfl rfl .head ?_
 refine nl ?_
 refine rg ?_
 refine mv rfl rfl ?_
 refine nc rfl rfl ?_
 refine fa0 F92_1 rfl rfl ?_
 refine st Tryz.sizeOf21 rfl rfl rfl rfl .head ?_
 refine nN ?_
 exact fun _ _ hA hw => rn rfl ler ⟨rfl, rfl⟩ hA hw
theorem clo_52 {H : Fz} {L : Own} :
  Fn Tryz.prog 52 [] H L (fun v H' L' => H = H' ∧ L = L' ∧ v = .agg #[.int .i32 (-1), .int .i32 (-1), .map none]) := by
 refine Fn.mk Tryz.call52 Tryz.func52 rfl Tryz.ntmps52 rfl ?_
 refine sr ?_
 refine al Tryz.zeroValue92 rfl rfl (fun b_1 => ?_)
 refine nl ?_
 refine sr ?_
 refine al Tryz.zeroValue92 rfl rfl (fun b_2 => ?_)
 refine nl ?_
 refine sr ?_
 refine cl rfl rfl rfl def0_FetchResponseTopicPartitionCurrentLeader rfl (fun v_ H1 L1 hle hR => ?_)
 obtain ⟨rfl, rfl⟩ := hR
 refine nl ?_
 refine sr ?_
 refine la (Says.own .head) Tryz.isAgg92 Tryz.sizeOf92 rfl (Nat.zero_add _).symm rfl rfl ?_
 refine sa Tryz.sizeOf92 rfl rfl rfl rfl rfl (.tail .head) ?_
 refine nl ?_
 refine drW .head ?_
 exact rC rfl Tryz.isAgg92 Tryz.sizeOf92 rfl .head rfl ler (fun _ _ h => h) ⟨rfl, rfl, rfl⟩
theorem us_FetchResponseTopicPartitionCurrentLeader {F : Fd} {x : Tr} (hk : F.kind = 10) (hs : F.sub = fs_sFetchResponseTopicPartitionCurrentLeader) (hR : RanN x) (hu : unknown fs_sFetchResponseTopicPartitionCurrentLeader x.u = x.u) : fieldU F x = (decide (IntKind.i32.wrap (x.at 0).n = -1) && decide (IntKind.i32.wrap (x.at 1).n = -1) && x.u.isEmpty) := by
 have h0 : fieldU (Fd.mk 3 0 (-1) (-1) (-1) (-1) 0 []) (x.at 0) = decide (IntKind.i32.wrap (x.at 0).n = -1) := FU_i32 rfl
 have h1 : fieldU (Fd.mk 3 0 (-1) (-1) (-1) (-1) 0 []) (x.at 1) = decide (IntKind.i32.wrap (x.at 1).n = -1) := FU_i32 rfl
 rw [FU_part hk, hs, hu]
 show (fieldU (Fd.mk 3 0 (-1) (-1) (-1) (-1) 0 []) (x.at 0) && (fieldU (Fd.mk 3 0 (-1) (-1) (-1) (-1) 0 []) (x.at 1) && true) && _) = _
 rw [Bool.and_true, h0, h1]
theorem zs_FetchResponseTopicPartitionSnapshotID {H : Fz} {L : Own} {a0 a1 b0 b1 : Int} {m : Option Nat} :
  Fn Tryz.prog 54 [.agg #[.int .i64 a0, .int .i32 a1, .map m], .agg #[.int .i64 b0, .int .i32 b1, .map none]] H L (fun v H' L' => H = H' ∧ L = L' ∧ v = .bool (decide (a0 = b0) && decide (a1 = b1) && m.isNone)) := by
 refine Fn.mk Tryz.call54 Tryz.func54 rfl Tryz.ntmps54 rfl ?_
 refine sr ?_
 refine bx rfl rfl rfl (fun b_1 => ?_)
 refine bx rfl rfl rfl (fun b_2 => ?_)
 refine asg rfl rfl ?_
 refine nl ?_
 refine sr ?_
 refine fa0 F94_0 rfl rfl ?_
 refine ld (Says.own (.tail .head)) Tryz.isAgg2 rfl (Nat.zero_add _).symm rfl rfl ?_
 refine fa0 F94_0 rfl rfl ?_
 refine ld (Says.own .head) Tryz.isAgg2 rfl (Nat.zero_add _).symm rfl rfl ?_
 refine eq' rfl rfl rfl ?_
 refine mv rfl rfl ?_
 refine spl (t := 10) rfl (fun h10 => ?_) (fun h10 => ?_)
 ·
  refine gr rfl rfl ?_
  refine fa0 F94_1 rfl rfl ?_
  refine gr rfl rfl ?_
  refine ld (Says.own (.tail .head)) Tryz.isAgg21 rfl (Nat.zero_add _).symm rfl rfl ?_
  refine gr rfl rfl ?_
  refine fa0 F94_1 rfl rfl ?_
  refine gr rfl rfl ?_
  refine ld (Says.own .head) Tryz.isAgg21 rfl (Nat.zero_add _).symm rfl rfl ?_
  refine gr rfl rfl ?_
  refine eq' rfl rfl rfl ?_
  refine pkT rfl rfl rfl rfl ?_
  refine mv rfl rfl ?_
  refine spl (t := 17) rfl (fun h17 => ?_) (fun h17 => ?_)
  ·
   refine gr rfl rfl ?_
   refine fa0 F94_2 rfl rfl ?_
   refine gr rfl rfl ?_
   refine la (Says.own (.tail .head)) Tryz.isAgg56 Tryz.sizeOf56 rfl (Nat.zero_add _).symm rfl rfl ?_
   refine gr rfl rfl ?_
   refine fa0 F94_2 rfl rfl ?_
   refine gr rfl rfl ?_
   refine la (Says.own .head) Tryz.isAgg56 Tryz.sizeOf56 rfl (Nat.zero_add _).symm rfl rfl ?_
   refine gr rfl rfl ?_
   refine cl rfl rfl rfl zs_tags rfl (fun v_ H1 L1 hle hR => ?_)
   obtain ⟨rfl, rfl, rfl⟩ := hR
   refine pkT rfl rfl rfl rfl ?_
   refine asg rfl rfl ?_
   refine nl ?_
   refine drW .head ?_
   refine drW .head ?_
   exact rT rfl rfl ler (fun _ _ h => h) ⟨rfl, rfl, by rw [decide_eq_true h10, decide_eq_true h17]; rfl⟩
  ·
   refine gs rfl rfl rfl rfl ?_
   refine gs rfl rfl rfl rfl ?_
   refine gs rfl rfl rfl rfl ?_
   refine gs rfl rfl rfl rfl ?_
   refine gs rfl rfl rfl rfl ?_
   refine pkF rfl rfl rfl rfl ?_
   refine asg rfl rfl ?_
   refine nl ?_
   refine drW .head ?_
   refine drW .head ?_
   exact rT rfl rfl ler (fun _ _ h => h) ⟨rfl, rfl, by rw [decide_eq_true h10, decide_eq_false h17]; rfl⟩
 ·
  refine gs rfl rfl rfl rfl ?_
  refine gs rfl rfl rfl rfl ?_
  refine gs rfl rfl rfl rfl ?_
  refine gs rfl rfl rfl rfl ?_
  refine gs rfl rfl rfl rfl ?_
  refine pkF rfl rfl rfl rfl ?_
  refine mv rfl rfl ?_
  refine gs rfl rfl rfl rfl ?_
  refine gs rfl rfl rfl rfl ?_
  refine gs rfl rfl rfl rfl ?_
  refine gs rfl rfl rfl rfl ?_
  refine gs rfl rfl rfl rfl ?_
  refine pkF rfl rfl rfl rfl ?_
  refine asg rfl rfl ?_
  refine nl ?_
  refine drW .head ?_
  refine drW .head ?_
  exact rT rfl rfl ler (fun _ _ h => h) ⟨rfl, rfl, by rw [decide_eq_false h10]; rfl⟩
theorem def0_FetchResponseTopicPartitionSnapshotID {H : Fz} {L : Own} {b : Nat} {c0 c1 c2 : Value} :
  Fn Tryz.prog 56 [.pointer (some ⟨b, 0, none⟩)] H ([(b, .cells [c0, c1, c2].toArray 94 (0, 0))] :: L) (fun _ H' L' => H = H' ∧ L' = [(b, .cells [.int .i64 (-1), .int .i32 (-1), c2].toArray 94 (0, 0))] :: L) := by
 refine Fn.mk Tryz.call56 Tryz.func56 rfl Tryz.ntmps56 rfl ?_
 refine sr ?_
 refine mv rfl rfl ?_
 refine nc rfl rfl ?_
 refine fa0 F94_0 rfl rfl ?_
 refine st Tryz.sizeOf2 rfl rfl rfl rfl .head ?_
 refine nl ?_
 refine rg ?_
 refine mv rfl rfl ?_
 refine nc rfl rfl ?_
 refine fa0 F94_1 rfl rfl ?_
 refine st Tryz.sizeOf21 rfl rfl rfl rfl .head ?_
 refine nN ?_
 exact fun _ _ hA hw => rn rfl ler ⟨rfl, rfl⟩ hA hw
theorem clo_55 {H : Fz} {L : Own} :
  Fn Tryz.prog 55 [] H L (fun v H' L' => H = H' ∧ L = L' ∧ v = .agg #[.int .i64 (-1), .int .i32 (-1), .map none]) := by
 refine Fn.mk Tryz.call55 Tryz.func55 rfl Tryz.ntmps55 rfl ?_
 refine sr ?_
 refine al Tryz.zeroValue94 rfl rfl (fun b_1 => ?_)
 refine nl ?_
 refine sr ?_
 refine al Tryz.zeroValue94 rfl rfl (fun b_2 => ?_)
 refine nl ?_
 refine sr ?_
 refine cl rfl rfl rfl def0_FetchResponseTopicPartitionSnapshotID rfl (fun v_ H1 L1 hle hR => ?_)
 obtain ⟨rfl, rfl⟩ := hR
 refine nl ?_
 refine sr ?_
 refine la (Says.own .head) Tryz.isAgg94 Tryz.sizeOf94 rfl (Nat.zero_add _).symm rfl rfl ?_
 refine sa Tryz.sizeOf94 rfl rfl rfl rfl rfl (.tail .head) ?_
 refine nl ?_
 refine drW .head ?_
 exact rC rfl Tryz.isAgg94 Tryz.sizeOf94 rfl .head rfl ler (fun _ _ h => h) ⟨rfl, rfl, rfl⟩
theorem us_FetchResponseTopicPartitionSnapshotID {F : Fd} {x : Tr} (hk : F.kind = 10) (hs : F.sub = fs_sFetchResponseTopicPartitionSnapshotID) (hR : RanN x) (hu : unknown fs_sFetchResponseTopicPartitionSnapshotID x.u = x.u) : fieldU F x = (decide ((x.at 0).n = -1) && decide (IntKind.i32.wrap (x.at 1).n = -1) && x.u.isEmpty) := by
 have h0 : fieldU (Fd.mk 4 0 (-1) (-1) (-1) (-1) 0 []) (x.at 0) = decide ((x.at 0).n = -1) := FU_i64 rfl (hR.at 0).n (by decide)
 have h1 : fieldU (Fd.mk 3 0 (-1) (-1) (-1) (-1) 0 []) (x.at 1) = decide (IntKind.i32.wrap (x.at 1).n = -1) := FU_i32 rfl
 rw [FU_part hk, hs, hu]
 show (fieldU (Fd.mk 4 0 (-1) (-1) (-1) (-1) 0 []) (x.at 0) && (fieldU (Fd.mk 3 0 (-1) (-1) (-1) (-1) 0 []) (x.at 1) && true) && _) = _
 rw [Bool.and_true, h0, h1]
end Go.Sx

import Derived.Test.YtdjfaejkhpifhaaGreatDoorRK
import Derived.Test.YtdjfaejkhpifhaaGreatDoorT1
import Derived.Test.YtdjfaejkhpifhaaGreatDoorLibH
import Derived.KernelRfl
set_option linter.unusedVariables false
set_option linter.unusedSimpArgs false
set_option maxRecDepth 100000
set_option maxHeartbeats 20000000
namespace Go.Sx
open Go.Proofs
theorem r_arrf {H : Fz} {L : Own} {b : Nat} {r : Rd} {N : Chunk} (hR : RdAt H 117 b r N) :
  Fn Tryz.prog 66 [.pointer (some ⟨b, 0, none⟩)] H (N :: L) (fun v H' L' => H = H' ∧ ∃ N', L' = N' :: L ∧ RdAt H' 117 b (rArr false r).2 N' ∧ v = .int .i32 (rArr false r).1) := by
 have e : rArr false r = if (((rN 4 r)).2.s.length : Int) < IntKind.i32.wrap (rN 4 r).1 then (0, .out) else (IntKind.i32.wrap (rN 4 r).1, ((rN 4 r)).2) := rfl
 refine Fn.mk Tryz.call66 Tryz.func66 rfl Tryz.ntmps66 rfl ?_
 refine sr ?_
 refine asg rfl rfl ?_
 refine nl ?_
 refine sr ?_
 refine mv rfl rfl ?_
 refine cl rfl rfl rfl (r_Int32 hR) rfl (fun v_ H1 L1 hle hR_ => ?_)
 obtain ⟨rfl, N1, rfl, hR1, rfl⟩ := hR_
 obtain ⟨a, c, rfl, hB, hnn⟩ := hR1
 refine asg rfl rfl ?_
 refine nl ?_
 refine sq ?_
 refine sr ?_
 refine mv rfl rfl ?_
 refine nc rfl rfl ?_
 refine fa0 F117_0 rfl rfl ?_
 refine ld (Says.own .head) Tryz.isAgg22 rfl (Nat.zero_add _).symm rfl rfl ?_
 refine ls Tryz.runUnderlying22 rfl rfl ?_
 refine mv rfl rfl ?_
 refine cv Tryz.runUnderlying21 Tryz.runUnderlying3 rfl (w64 (by have := i32_rng ((rN 4 r).1); omega) (by have := i32_rng ((rN 4 r).1); omega)) rfl ?_
 refine lt rfl rfl rfl ?_
 refine nl ?_
 refine cd rfl (fun h13 => ?_) (fun h13 => ?_)
 ·
  refine sr ?_
  refine mv rfl rfl ?_
  refine nc rfl rfl ?_
  refine fa0 F117_1 rfl rfl ?_
  refine st Tryz.sizeOf4 rfl rfl rfl rfl .head ?_
  refine nl ?_
  refine sr ?_
  refine mv rfl rfl ?_
  refine nc rfl rfl ?_
  refine fa0 F117_0 rfl rfl ?_
  refine st Tryz.sizeOf22 rfl rfl rfl rfl .head ?_
  refine nl ?_
  refine sr ?_
  refine asg rfl rfl ?_
  refine nl ?_
  rw [if_pos h13] at e
  exact rT rfl rfl ler (fun _ _ h => h) ⟨rfl, _, rfl, by rw [e]; exact RdAt.out _ _ _, by rw [e]⟩
 ·
  refine skt ?_
  refine sr ?_
  refine mv rfl rfl ?_
  refine asg rfl rfl ?_
  refine nl ?_
  rw [if_neg h13] at e
  exact rT rfl rfl ler (fun _ _ h => h) ⟨rfl, _, rfl, by rw [e]; exact ⟨a, c, rfl, hB, hnn⟩, by rw [e]⟩
theorem r_arrt {H : Fz} {L : Own} {b : Nat} {r : Rd} {N : Chunk} (hR : RdAt H 117 b r N) :
  Fn Tryz.prog 65 [.pointer (some ⟨b, 0, none⟩)] H (N :: L) (fun v H' L' => H = H' ∧ ∃ N', L' = N' :: L ∧ RdAt H' 117 b (rArr true r).2 N' ∧ v = .int .i32 (rArr true r).1) := by
 have e : rArr true r = if (((rU r)).2.s.length : Int) < IntKind.i32.wrap (IntKind.i32.wrap (rU r).1 - 1) then (0, .out) else (IntKind.i32.wrap (IntKind.i32.wrap (rU r).1 - 1), ((rU r)).2) := rfl
 refine Fn.mk Tryz.call65 Tryz.func65 rfl Tryz.ntmps65 rfl ?_
 refine sr ?_
 refine asg rfl rfl ?_
 refine nl ?_
 refine sr ?_
 refine mv rfl rfl ?_
 refine cl rfl rfl rfl (r_Uvarint hR) rfl (fun v_ H1 L1 hle hR_ => ?_)
 obtain ⟨rfl, N1, rfl, hR1, rfl⟩ := hR_
 obtain ⟨a, c, rfl, hB, hnn⟩ := hR1
 refine cv Tryz.runUnderlying55 Tryz.runUnderlying21 rfl rfl rfl ?_
 refine sb rfl rfl rfl rfl ?_
 refine asg rfl rfl ?_
 refine nl ?_
 refine sq ?_
 refine sr ?_
 refine mv rfl rfl ?_
 refine nc rfl rfl ?_
 refine fa0 F117_0 rfl rfl ?_
 refine ld (Says.own .head) Tryz.isAgg22 rfl (Nat.zero_add _).symm rfl rfl ?_
 refine ls Tryz.runUnderlying22 rfl rfl ?_
 refine mv rfl rfl ?_
 refine cv Tryz.runUnderlying21 Tryz.runUnderlying3 rfl (w64 (by have := i32_rng ((IntKind.i32.wrap (rU r).1 - 1)); omega) (by have := i32_rng ((IntKind.i32.wrap (rU r).1 - 1)); omega)) rfl ?_
 refine lt rfl rfl rfl ?_
 refine nl ?_
 refine cd rfl (fun h15 => ?_) (fun h15 => ?_)
 ·
  refine sr ?_
  refine mv rfl rfl ?_
  refine nc rfl rfl ?_
  refine fa0 F117_1 rfl rfl ?_
  refine st Tryz.sizeOf4 rfl rfl rfl rfl .head ?_
  refine nl ?_
  refine sr ?_
  refine mv rfl rfl ?_
  refine nc rfl rfl ?_
  refine fa0 F117_0 rfl rfl ?_
  refine st Tryz.sizeOf22 rfl rfl rfl rfl .head ?_
  refine nl ?_
  refine sr ?_
  refine asg rfl rfl ?_
  refine nl ?_
  rw [if_pos h15] at e
  exact rT rfl rfl ler (fun _ _ h => h) ⟨rfl, _, rfl, by rw [e]; exact RdAt.out _ _ _, by rw [e]⟩
 ·
  refine skt ?_
  refine sr ?_
  refine mv rfl rfl ?_
  refine asg rfl rfl ?_
  refine nl ?_
  rw [if_neg h15] at e
  exact rT rfl rfl ler (fun _ _ h => h) ⟨rfl, _, rfl, by rw [e]; exact ⟨a, c, rfl, hB, hnn⟩, by rw [e]⟩
theorem r_ok {H : Fz} {L : Own} {b : Nat} {r : Rd} {N : Chunk} (hR : RdAt H 117 b r N) :
  Fn Tryz.prog 67 [.pointer (some ⟨b, 0, none⟩)] H (N :: L) (fun v H' L' => H = H' ∧ L' = N :: L ∧ v = .bool (!r.bad)) := by
 obtain ⟨a, c, rfl, hB, hnn⟩ := hR
 refine Fn.mk Tryz.call67 Tryz.func67 rfl Tryz.ntmps67 rfl ?_
 refine sr ?_
 refine asg rfl rfl ?_
 refine nl ?_
 refine sr ?_
 refine mv rfl rfl ?_
 refine nc rfl rfl ?_
 refine fa0 F117_1 rfl rfl ?_
 refine ld (Says.own .head) Tryz.isAgg4 rfl (Nat.zero_add _).symm rfl rfl ?_
 refine nt rfl rfl ?_
 refine asg rfl rfl ?_
 refine nl ?_
 exact rT rfl rfl ler (fun _ _ h => h) ⟨rfl, rfl, rfl⟩
theorem r_complete {H : Fz} {L : Own} {b : Nat} {r : Rd} {N : Chunk} {e : Value} (hR : RdAt H 117 b r N) (he : H.at 1 0 [e]) :
  Fn Tryz.prog 68 [.pointer (some ⟨b, 0, none⟩)] H (N :: L) (fun v H' L' => H = H' ∧ L' = N :: L ∧ v = bif r.bad then e else .nilIface) := by
 obtain ⟨a, c, rfl, hB, hnn⟩ := hR
 refine Fn.mk Tryz.call68 Tryz.func68 rfl Tryz.ntmps68 rfl ?_
 refine sr ?_
 refine asg rfl rfl ?_
 refine nl ?_
 refine sq ?_
 refine sr ?_
 refine mv rfl rfl ?_
 refine nc rfl rfl ?_
 refine fa0 F117_1 rfl rfl ?_
 refine ld (Says.own .head) Tryz.isAgg4 rfl (Nat.zero_add _).symm rfl rfl ?_
 refine nl ?_
 refine cb rfl (fun h6 => ?_) (fun h6 => ?_)
 ·
  refine sr ?_
  refine ld (j := 0) (Says.fz he) Tryz.isAgg50 rfl rfl rfl rfl ?_
  refine asg rfl rfl ?_
  refine nl ?_
  exact rT rfl rfl ler (fun _ _ h => h) ⟨rfl, rfl, by rw [h6]; rfl⟩
 ·
  refine skt ?_
  refine sr ?_
  refine asg rfl rfl ?_
  refine nl ?_
  exact rT rfl rfl ler (fun _ _ h => h) ⟨rfl, rfl, by rw [h6]; rfl⟩
theorem d_tags {H : Fz} {L : Own} {b : Nat} {r : Rd} {N : Chunk} (hR : RdAt H 117 b r N) :
  Fn Tryz.prog 77 [.pointer (some ⟨b, 0, none⟩)] H (N :: L) (fun v H' L' => ∃ N', L' = N' :: L ∧ RdAt H' 117 b (rTags r).2 N' ∧ ∃ m, v = .agg #[.map m] ∧ KvAt H' m (rTags r).1) := by
 have hr0 := hR
 refine Fn.mk Tryz.call77 Tryz.func77 rfl Tryz.ntmps77 rfl ?_
 refine sr ?_
 refine al Tryz.zeroValue63 rfl rfl (fun b_1 => ?_)
 refine nl ?_
 refine sr ?_
 refine al Tryz.zeroValue63 rfl rfl (fun b_2 => ?_)
 refine nl ?_
 refine sq ?_
 refine sr ?_
 refine mv rfl rfl ?_
 refine tf (.tail (.tail .head)) ?_
 refine cl rfl rfl rfl (r_Uvarint hR) rfl (fun v_ H1 L1 hle hR_ => ?_)
 obtain ⟨rfl, N8, rfl, hR8, rfl⟩ := hR_
 have hu8 := rU_lt r
 refine asg rfl rfl ?_
 refine nl ?_
 refine nulC2 ?_
 refine bl (lp ((rU r).1) (fun k l' H' L' => ∃ (m : Option Nat) (kvs : List KV) (M N : Chunk), [(0, .pointer (some ⟨b, 0, none⟩)), (2, .pointer (some ⟨b_1, 0, none⟩)), (3, .pointer (some ⟨b_2, 0, none⟩)), (4, .int .u32 (((rU r).1 - k : Nat) : Int))] = l' ∧ M :: N :: [(b_2, .cells [.map m].toArray 63 (0, 0))] :: [(b_1, .cells [.map none].toArray 63 (0, 0))] :: L = L' ∧ RdAt H' 117 b (rTagsN k [] (rU r).2).2 N ∧ MapC m kvs M ∧ KvSet H' (rTagsN k [] (rU r).2).1 kvs) [(0, .pointer (some ⟨b, 0, none⟩)), (2, .pointer (some ⟨b_1, 0, none⟩)), (3, .pointer (some ⟨b_2, 0, none⟩)), (4, .int .u32 (((rU r).1 - 0 : Nat) : Int))] (.of ⟨rfl, rfl, rfl, rfl, trivial⟩) ⟨none, [], [], _, rfl, rfl, hR8, MapC.nil, KvSet.nil _⟩ (fun k l' H' L' hk le0 hI => ?_))
 obtain ⟨m, kvs, M, N, rfl, rfl, pk0, pk1, pk2⟩ := hI
 refine sq ?_
 refine sr ?_
 refine mv rfl rfl ?_
 refine gt rfl rfl rfl ?_
 refine nl ?_
 refine cd rfl (fun h10 => ?_) (fun h10 => ?_)
 ·
  have hkn : k < (rU r).1 := by omega
  refine skt ?_
  refine sq ?_
  refine bl ?_
  refine sr ?_
  refine mv rfl rfl ?_
  refine tf (.tail .head) ?_
  refine cl rfl rfl rfl (r_Uvarint pk0) rfl (fun v_ H1 L1 hle hR_ => ?_)
  obtain ⟨rfl, N14, rfl, hR14, rfl⟩ := hR_
  have hu14 := rU_lt (rTagsN k [] (rU r).2).2
  refine mv rfl rfl ?_
  refine cl rfl rfl rfl (r_Uvarint hR14) rfl (fun v_ H1 L1 hle hR_ => ?_)
  obtain ⟨rfl, N16, rfl, hR16, rfl⟩ := hR_
  have hu16 := rU_lt (rU (rTagsN k [] (rU r).2).2).2
  refine asg rfl rfl ?_
  refine asg rfl rfl ?_
  refine nl ?_
  refine rg ?_
  refine mv rfl rfl ?_
  refine mv rfl rfl ?_
  refine mv rfl rfl ?_
  refine cv Tryz.runUnderlying55 Tryz.runUnderlying3 rfl (w64 (by omega) (by omega)) rfl ?_
  refine cl rfl rfl rfl (r_Span hR16) rfl (fun v_ H1 L1 hle hR_ => ?_)
  obtain ⟨rfl, N21, rfl, hR21, a21, c21, rfl, hB21, hn21⟩ := hR_
  refine tf (.tail (.tail .head)) ?_
  refine tf (.tail (.tail .head)) ?_
  refine cl rfl rfl rfl (t_set (cs := [.map m]) (off := 0) pk1 rfl) rfl (fun v_ H1 L1 hle hR_ => ?_)
  obtain ⟨rfl, g22, cs22, hs22, rfl⟩ := hR_
  obtain rfl : [.map (some g22)] = cs22 := Option.some.inj hs22
  refine nN ?_
  refine Nb ?_
  refine Nt ?_
  refine rg ?_
  refine mv rfl rfl ?_
  refine sb rfl rfl (c := (((rU r).1 - k - 1 : Nat) : Int)) ((w32u (by omega) (by omega)).trans (by omega)) rfl ?_
  refine asg rfl rfl ?_
  refine nN ?_
  refine tfN (.tail .head) ?_
  refine tfN (.tail (.tail .head)) ?_
  refine tfN (.tail (.tail .head)) ?_
  have hstep := rTagsN_succ k [] (rU r).2
  refine fun a_ w_ hA hw => ⟨by omega, _, _, _, hA.sub ?_, le0, hw, some g22, _, _, _, rfl, rfl, by rw [hstep]; exact hR21, .inr ⟨g22, rfl, rfl⟩, by rw [hstep]; exact pk2.put ⟨⟨a21, c21, rfl, hB21⟩, by omega, by omega⟩⟩
  exact (.cons rfl (.cons rfl (.cons rfl (.cons (by rw [show (rU r).1 - (k + 1) = (rU r).1 - k - 1 by omega]; rfl) (.nil _)))))
 ·
  obtain rfl : k = (rU r).1 := by omega
  refine exX ?_
  refine XT ?_
  refine XT ?_
  refine Xb ?_
  refine Nt ?_
  refine sr ?_
  refine la (Says.own (.tail (.tail .head))) Tryz.isAgg63 Tryz.sizeOf63 rfl (Nat.zero_add _).symm rfl rfl ?_
  refine sa Tryz.sizeOf63 rfl rfl rfl rfl rfl (.tail (.tail (.tail .head))) ?_
  refine nl ?_
  refine frMW pk1 .head (fun H3 hle3 hmf => ?_)
  refine drW (.tail .head) ?_
  exact rC rfl Tryz.isAgg63 Tryz.sizeOf63 rfl (.tail .head) rfl (le0.trans hle3) (fun _ _ h => h) ⟨_, rfl, pk0.mono hle3, m, rfl, (pk2.mono hle3).at_ hmf⟩
theorem d0 {H : Fz} {L : Own} {b : Nat} {r : Rd} {N : Chunk} {x : Tr × Rd} {part : Rd → Tr × Rd} {nul flex : Bool} (hR : RdAt H 117 b r N) (hx : x = decV 0 part nul flex r) :
  Fn Tryz.prog 76 [.pointer (some ⟨b, 0, none⟩)] H (N :: L) (fun v H' L' => ∃ N', L' = N' :: L ∧ RdAt H' 117 b x.2 N' ∧ H = H' ∧ v = .bool (decide (x.1.n % 2 = 1))) :=
 (r_Bool hR).mono fun v H' L' _ ⟨h1, N', h2, h3, h4⟩ => by
  obtain rfl := hx.trans dV0
  subst h1
  refine ⟨N', h2, h3, rfl, ?_⟩
  rw [h4]
  congr 1; apply decide_eq_decide.2; show _ ↔ (if (rN 1 r).1 = 0 then (0 : Int) else 1) % 2 = 1; split <;> omega
theorem d2 {H : Fz} {L : Own} {b : Nat} {r : Rd} {N : Chunk} {x : Tr × Rd} {part : Rd → Tr × Rd} {nul flex : Bool} (hR : RdAt H 117 b r N) (hx : x = decV 2 part nul flex r) :
  Fn Tryz.prog 64 [.pointer (some ⟨b, 0, none⟩)] H (N :: L) (fun v H' L' => ∃ N', L' = N' :: L ∧ RdAt H' 117 b x.2 N' ∧ H = H' ∧ v = .int .i16 (IntKind.i16.wrap x.1.n)) :=
 (r_Int16 hR).mono fun v H' L' _ ⟨h1, N', h2, h3, h4⟩ => by
  obtain rfl := hx.trans dV2
  subst h1
  refine ⟨N', h2, h3, rfl, ?_⟩
  rw [h4]
  exact congrArg _ (wrap16_idem _).symm
theorem d3 {H : Fz} {L : Own} {b : Nat} {r : Rd} {N : Chunk} {x : Tr × Rd} {part : Rd → Tr × Rd} {nul flex : Bool} (hR : RdAt H 117 b r N) (hx : x = decV 3 part nul flex r) :
  Fn Tryz.prog 75 [.pointer (some ⟨b, 0, none⟩)] H (N :: L) (fun v H' L' => ∃ N', L' = N' :: L ∧ RdAt H' 117 b x.2 N' ∧ H = H' ∧ v = .int .i32 (IntKind.i32.wrap x.1.n)) :=
 (r_Int32 hR).mono fun v H' L' _ ⟨h1, N', h2, h3, h4⟩ => by
  obtain rfl := hx.trans dV3
  subst h1
  refine ⟨N', h2, h3, rfl, ?_⟩
  rw [h4]
  exact congrArg _ (wrap32_idem _).symm
theorem d4 {H : Fz} {L : Own} {b : Nat} {r : Rd} {N : Chunk} {x : Tr × Rd} {part : Rd → Tr × Rd} {nul flex : Bool} (hR : RdAt H 117 b r N) (hx : x = decV 4 part nul flex r) :
  Fn Tryz.prog 89 [.pointer (some ⟨b, 0, none⟩)] H (N :: L) (fun v H' L' => ∃ N', L' = N' :: L ∧ RdAt H' 117 b x.2 N' ∧ H = H' ∧ v = .int .i64 x.1.n) :=
 (r_Int64 hR).mono fun v H' L' _ ⟨h1, N', h2, h3, h4⟩ => by
  obtain rfl := hx.trans (dV4 (Or.inl rfl))
  subst h1
  refine ⟨N', h2, h3, rfl, ?_⟩
  rw [h4]
  rfl
theorem d5 {H : Fz} {L : Own} {b : Nat} {r : Rd} {N : Chunk} {x : Tr × Rd} {part : Rd → Tr × Rd} {nul flex : Bool} (hR : RdAt H 117 b r N) (hx : x = decV 5 part nul flex r) :
  Fn Tryz.prog 82 [.pointer (some ⟨b, 0, none⟩)] H (N :: L) (fun v H' L' => ∃ N', L' = N' :: L ∧ RdAt H' 117 b x.2 N' ∧ H = H' ∧ v = .int .u16 (IntKind.u16.wrap x.1.n)) :=
 (r_Uint16 hR).mono fun v H' L' _ ⟨h1, N', h2, h3, h4⟩ => by
  obtain rfl := hx.trans dV5
  subst h1
  refine ⟨N', h2, h3, rfl, ?_⟩
  rw [h4]
  have h5 := rN_lt 2 r; exact congrArg _ (w16u (by show (0 : Int) ≤ ((rN 2 r).1 : Nat); omega) (by show (((rN 2 r).1 : Nat) : Int) < 65536; omega)).symm
end Go.Sx

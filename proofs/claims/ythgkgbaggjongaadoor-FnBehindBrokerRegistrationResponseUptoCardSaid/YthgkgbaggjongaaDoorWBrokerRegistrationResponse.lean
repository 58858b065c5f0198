import Derived.Test.YthgkgbaggjongaaDoorBBrokerRegistrationResponse
import Derived.Test.YthgkgbaggjongaaDoorKB2
import Derived.Test.YthgkgbaggjongaaDoorMkL
import Derived.KernelRfl
set_option linter.unusedVariables false
set_option linter.unusedSimpArgs false
set_option maxRecDepth 100000
set_option maxHeartbeats 20000000
namespace Go.Sx
open Go.Proofs
theorem app_BrokerRegistrationResponse_t {H : Fz} {L : Own} {a : Option Addr} {cap b : Nat} {D : List UInt8} {N : Chunk} {cs : List Value} {T : Tr} {v : Int} (hr : Row 5 1 a D.length cap (bytesOf D) N) (hv : H.at b 0 cs) (hA : At_BrokerRegistrationResponse v H T cs) (hok : OkP fs_BrokerRegistrationResponse v T) (h0 : 0 ≤ v) (h1 : v ≤ 4) (hb : D.length + (partB fs_BrokerRegistrationResponse v true T).length ≤ LIM) :
    Fn Tryd.prog 17 [.pointer (some ⟨b, 0, none⟩), .slice a D.length cap] H (N :: L) (fun r H' L' => OutB 5 L (D ++ partB fs_BrokerRegistrationResponse v true T) r L') := by
  obtain ⟨mt, rfl, hf0⟩ := hA
  refine Fn.mk Tryd.call17 Tryd.func17 rfl Tryd.ntmps17 rfl ?_
  refine sr ?_
  refine asg rfl rfl ?_
  refine nl ?_
  refine sr ?_
  refine mv rfl rfl ?_
  refine nc rfl rfl ?_
  refine fa0 F60_0 rfl rfl ?_
  refine ld (Says.fz hv) Tryd.isAgg40 rfl (Nat.zero_add _).symm rfl rfl ?_
  refine asg rfl rfl ?_
  refine nl ?_
  refine sr ?_
  refine mv rfl rfl ?_
  refine nl ?_
  refine sr ?_
  refine mv rfl rfl ?_
  refine ge rfl rfl rfl ?_
  refine asg rfl rfl ?_
  refine nl ?_
  refine sr ?_
  refine mv rfl rfl ?_
  refine nl ?_
  refine sq ?_
  refine sr ?_
  refine mv rfl rfl ?_
  refine nc rfl rfl ?_
  refine fa0 F60_1 rfl rfl ?_
  refine ld (Says.fz hv) Tryd.isAgg21 rfl (Nat.zero_add _).symm rfl rfl ?_
  refine asg rfl rfl ?_
  refine nl ?_
  refine rg ?_
  refine mv rfl rfl ?_
  refine mv rfl rfl ?_
  have ok24 := hok.get 0 (by decide) (has_yes (show (0 : Int) ≤ v by omega) (show ((-1) : Int) < 0 ∨ v ≤ (-1) by omega))
  have e_1 : D ++ (fixed (IntKind.i32.wrap (T.at 0).n) 4) = D ++ plainTo (zipped fs_BrokerRegistrationResponse v true T) v 1 := fold_first (fs := fs_BrokerRegistrationResponse) (v := v) (flex := true) (t := T) (B := D) 0 rfl (by decide) (by decide) (has_yes (show (0 : Int) ≤ v by omega) (show ((-1) : Int) < 0 ∨ v ≤ (-1) by omega)) ((FB_int (f := (fs_BrokerRegistrationResponse[0]'(by decide))) (by decide) (by decide)).trans (fixed_i32 _).symm)
  have hs24 := fold_size e_1 (by decide) hb
  refine cl rfl rfl rfl (OutK.cast (k_AppendInt32 (u := IntKind.i32.wrap (T.at 0).n) hr hs24) e_1) rfl (fun v_ H1 L1 hle hR => ?_)
  obtain ⟨rfl, a24, c24, N24, rfl, rfl, h24⟩ := hR
  have r24 := h24.1
  refine asg rfl rfl ?_
  refine nl ?_
  refine sq ?_
  refine sr ?_
  refine mv rfl rfl ?_
  refine nc rfl rfl ?_
  refine fa0 F60_2 rfl rfl ?_
  refine ld (Says.fz hv) Tryd.isAgg40 rfl (Nat.zero_add _).symm rfl rfl ?_
  refine asg rfl rfl ?_
  refine nl ?_
  refine rg ?_
  refine mv rfl rfl ?_
  refine mv rfl rfl ?_
  have ok31 := hok.get 1 (by decide) (has_yes (show (0 : Int) ≤ v by omega) (show ((-1) : Int) < 0 ∨ v ≤ (-1) by omega))
  have e_2 : D ++ plainTo (zipped fs_BrokerRegistrationResponse v true T) v 1 ++ (fixed (IntKind.i16.wrap (T.at 1).n) 2) = D ++ plainTo (zipped fs_BrokerRegistrationResponse v true T) v 2 := fold_yes (fs := fs_BrokerRegistrationResponse) (v := v) (flex := true) (t := T) (B := D) 1 (by decide) (by decide) (has_yes (show (0 : Int) ≤ v by omega) (show ((-1) : Int) < 0 ∨ v ≤ (-1) by omega)) ((FB_int (f := (fs_BrokerRegistrationResponse[1]'(by decide))) (by decide) (by decide)).trans (fixed_i16 _).symm)
  have hs31 := fold_size e_2 (by decide) hb
  refine cl rfl rfl rfl (OutK.cast (k_AppendInt16 (u := IntKind.i16.wrap (T.at 1).n) r24 hs31) e_2) rfl (fun v_ H1 L1 hle hR => ?_)
  obtain ⟨rfl, a31, c31, N31, rfl, rfl, h31⟩ := hR
  have r31 := h31.1
  refine asg rfl rfl ?_
  refine nl ?_
  refine sq ?_
  refine sr ?_
  refine mv rfl rfl ?_
  refine nc rfl rfl ?_
  refine fa0 F60_3 rfl rfl ?_
  refine ld (Says.fz hv) Tryd.isAgg2 rfl (Nat.zero_add _).symm rfl rfl ?_
  refine asg rfl rfl ?_
  refine nl ?_
  refine rg ?_
  refine mv rfl rfl ?_
  refine mv rfl rfl ?_
  have ok38 := hok.get 2 (by decide) (has_yes (show (0 : Int) ≤ v by omega) (show ((-1) : Int) < 0 ∨ v ≤ (-1) by omega))
  have e_3 : D ++ plainTo (zipped fs_BrokerRegistrationResponse v true T) v 2 ++ (fixed ((T.at 2).n) 8) = D ++ plainTo (zipped fs_BrokerRegistrationResponse v true T) v 3 := fold_yes (fs := fs_BrokerRegistrationResponse) (v := v) (flex := true) (t := T) (B := D) 2 (by decide) (by decide) (has_yes (show (0 : Int) ≤ v by omega) (show ((-1) : Int) < 0 ∨ v ≤ (-1) by omega)) ((FB_int (f := (fs_BrokerRegistrationResponse[2]'(by decide))) (by decide) (by decide)).trans rfl)
  have hs38 := fold_size e_3 (by decide) hb
  refine cl rfl rfl rfl (OutK.cast (k_AppendInt64 (u := (T.at 2).n) r31 hs38) e_3) rfl (fun v_ H1 L1 hle hR => ?_)
  obtain ⟨rfl, a38, c38, N38, rfl, rfl, h38⟩ := hR
  have r38 := h38.1
  refine asg rfl rfl ?_
  refine nl ?_
  refine sq ?_
  refine sr ?_
  refine mv rfl rfl ?_
  refine nl ?_
  refine cdT rfl (by omega) ?_
  refine sr ?_
  refine mv rfl rfl ?_
  refine mv rfl rfl ?_
  refine nc rfl rfl ?_
  refine fa0 F60_4 rfl rfl ?_
  refine cl rfl rfl rfl (t_lenU (j := 4) hv rfl hf0) rfl (fun v_ H1 L1 hle hR => ?_)
  obtain ⟨rfl, rfl, rfl⟩ := hR
  have hu44 := hok.u
  have hul44 := hu44.2.1
  obtain ⟨hz44a, hz44b⟩ := part_size_plain (by decide) hu44 hb
  refine cv Tryd.runUnderlying3 Tryd.runUnderlying52 rfl (w32u (by omega) (by omega)) rfl ?_
  refine ad rfl rfl ((w32u (by omega) (by omega)).trans (Int.zero_add _)) rfl ?_
  refine cl rfl rfl rfl (k_AppendUvarint (n := T.u.length) (by omega) r38 hz44a) rfl (fun v_ H1 L1 hle hR => ?_)
  obtain ⟨rfl, a47, c47, N47, rfl, rfl, h47⟩ := hR
  have r47 := h47.1
  refine asg rfl rfl ?_
  refine nl ?_
  refine rg ?_
  refine mv rfl rfl ?_
  refine nc rfl rfl ?_
  refine fa0 F60_4 rfl rfl ?_
  refine mv rfl rfl ?_
  refine cl rfl rfl rfl (t_append_each (j := 4) hv rfl hf0 (by omega) r47 (fun p hp => by have := hu44.2.2 p hp; omega) hz44b) rfl (fun v_ H1 L1 le_4 hR => ?_)
  obtain ⟨a52, c52, N52, rfl, rfl, h52⟩ := hR
  have r52 := h52.1
  have eP_5 : D ++ plainTo (zipped fs_BrokerRegistrationResponse v true T) v 3 ++ uvar T.u.length ++ T.u.flatMap tagU = D ++ partB fs_BrokerRegistrationResponse v true T := part_close (B := D) (by decide) hu44
  rw [eP_5] at r52 ⊢
  refine asg rfl rfl ?_
  refine nl ?_
  refine sr ?_
  refine mv rfl rfl ?_
  refine asg rfl rfl ?_
  refine nl ?_
  exact rT rfl rfl le_4 (fun _ _ h => h) (OutB.of r52 rfl)
end Go.Sx

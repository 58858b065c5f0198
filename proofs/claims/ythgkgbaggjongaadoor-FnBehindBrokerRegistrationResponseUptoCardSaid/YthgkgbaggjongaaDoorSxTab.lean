import Derived.Test.YthgkgbaggjongaaDoorProg
import Derived.Test.YthgkgbaggjongaaDoorLibA
import Derived.KernelRfl
set_option linter.unusedVariables false
set_option linter.unusedSimpArgs false
namespace Go.Sx
open Go.Proofs
theorem mixed : Tryd.prog.follows .mixedOrders = true := by kernel_rfl
theorem F26_0 : FieldOff Tryd.prog 26 0 0 := FieldOff.mk Tryd.runUnderlying26 rfl Tryd.sizeOf2 rfl rfl
theorem F26_1 : FieldOff Tryd.prog 26 1 1 := FieldOff.mk Tryd.runUnderlying26 rfl Tryd.sizeOf22 rfl rfl
theorem F26_2 : FieldOff Tryd.prog 26 2 2 := FieldOff.mk Tryd.runUnderlying26 rfl Tryd.sizeOf4 rfl rfl
theorem F26_3 : FieldOff Tryd.prog 26 3 3 := FieldOff.mk Tryd.runUnderlying26 rfl Tryd.sizeOf23 rfl rfl
theorem F26_4 : FieldOff Tryd.prog 26 4 4 := FieldOff.mk Tryd.runUnderlying26 rfl Tryd.sizeOf24 rfl rfl
theorem F31_0 : FieldOff Tryd.prog 31 0 0 := FieldOff.mk Tryd.runUnderlying31 rfl Tryd.sizeOf29 rfl rfl
theorem F31_1 : FieldOff Tryd.prog 31 1 1 := FieldOff.mk Tryd.runUnderlying31 rfl Tryd.sizeOf3 rfl rfl
theorem F45_0 : FieldOff Tryd.prog 45 0 0 := FieldOff.mk Tryd.runUnderlying45 rfl Tryd.sizeOf3 rfl rfl
theorem F45_1 : FieldOff Tryd.prog 45 1 1 := FieldOff.mk Tryd.runUnderlying45 rfl Tryd.sizeOf3 rfl rfl
theorem F45_2 : FieldOff Tryd.prog 45 2 2 := FieldOff.mk Tryd.runUnderlying45 rfl Tryd.sizeOf3 rfl rfl
theorem F45_3 : FieldOff Tryd.prog 45 3 3 := FieldOff.mk Tryd.runUnderlying45 rfl Tryd.sizeOf3 rfl rfl
theorem F45_4 : FieldOff Tryd.prog 45 4 4 := FieldOff.mk Tryd.runUnderlying45 rfl Tryd.sizeOf3 rfl rfl
theorem F45_5 : FieldOff Tryd.prog 45 5 5 := FieldOff.mk Tryd.runUnderlying45 rfl Tryd.sizeOf2 rfl rfl
theorem F45_6 : FieldOff Tryd.prog 45 6 6 := FieldOff.mk Tryd.runUnderlying45 rfl Tryd.sizeOf3 rfl rfl
theorem F45_7 : FieldOff Tryd.prog 45 7 7 := FieldOff.mk Tryd.runUnderlying45 rfl Tryd.sizeOf29 rfl rfl
theorem F54_0 : FieldOff Tryd.prog 54 0 0 := FieldOff.mk Tryd.runUnderlying54 rfl Tryd.sizeOf52 rfl rfl
theorem F54_1 : FieldOff Tryd.prog 54 1 1 := FieldOff.mk Tryd.runUnderlying54 rfl Tryd.sizeOf22 rfl rfl
theorem F58_0 : FieldOff Tryd.prog 58 0 0 := FieldOff.mk Tryd.runUnderlying58 rfl Tryd.sizeOf56 rfl rfl
theorem F60_0 : FieldOff Tryd.prog 60 0 0 := FieldOff.mk Tryd.runUnderlying60 rfl Tryd.sizeOf40 rfl rfl
theorem F60_1 : FieldOff Tryd.prog 60 1 1 := FieldOff.mk Tryd.runUnderlying60 rfl Tryd.sizeOf21 rfl rfl
theorem F60_2 : FieldOff Tryd.prog 60 2 2 := FieldOff.mk Tryd.runUnderlying60 rfl Tryd.sizeOf40 rfl rfl
theorem F60_3 : FieldOff Tryd.prog 60 3 3 := FieldOff.mk Tryd.runUnderlying60 rfl Tryd.sizeOf2 rfl rfl
theorem F60_4 : FieldOff Tryd.prog 60 4 4 := FieldOff.mk Tryd.runUnderlying60 rfl Tryd.sizeOf58 rfl rfl
theorem F82_0 : FieldOff Tryd.prog 82 0 0 := FieldOff.mk Tryd.runUnderlying82 rfl Tryd.sizeOf22 rfl rfl
theorem F82_1 : FieldOff Tryd.prog 82 1 1 := FieldOff.mk Tryd.runUnderlying82 rfl Tryd.sizeOf4 rfl rfl
theorem I5 : TI Tryd.prog 5 1 1 (.int .u8 0) := TI.mk_run Tryd.typeInfo5 rfl rfl rfl (by decide) rfl
theorem I52 : TI Tryd.prog 52 1 4 (.int .u32 0) := TI.mk_run Tryd.typeInfo52 rfl rfl rfl (by decide) rfl
theorem I54 : TI Tryd.prog 54 2 32 (.agg #[.int .u32 0, .slice none 0 0]) := TI.mk_run Tryd.typeInfo54 rfl rfl rfl (by decide) rfl
theorem L102 : Sli Tryd.prog 102 52 1 [.int .u32 0] := ⟨Tryd.runUnderlying102, Tryd.sizeOf52, ⟨_, Tryd.zeroValue52, rfl⟩, rfl, rfl⟩
theorem L22 : Sli Tryd.prog 22 5 1 [.int .u8 0] := ⟨Tryd.runUnderlying22, Tryd.sizeOf5, ⟨_, Tryd.zeroValue5, rfl⟩, rfl, rfl⟩
theorem L24 : Sli Tryd.prog 24 54 2 [.int .u32 0, .slice none 0 0] := ⟨Tryd.runUnderlying24, Tryd.sizeOf54, ⟨_, Tryd.zeroValue54, rfl⟩, rfl, rfl⟩
theorem L29 : Sli Tryd.prog 29 45 8 [.int .i64 0, .int .i64 0, .int .i64 0, .int .i64 0, .int .i64 0, .int .i64 0, .int .i64 0, .slice none 0 0] := ⟨Tryd.runUnderlying29, Tryd.sizeOf45, ⟨_, Tryd.zeroValue45, rfl⟩, rfl, rfl⟩
theorem S26 : Stru Tryd.prog 26 [(0, 1), (1, 1), (2, 1), (3, 1), (4, 1)] [.int .i64 0, .slice none 0 0, .bool false, .slice none 0 0, .slice none 0 0] := ⟨Tryd.zeroValue26, _, Tryd.runUnderlying26, fun w => by kernel_rfl⟩
theorem S31 : Stru Tryd.prog 31 [(0, 1), (1, 1)] [.slice none 0 0, .int .i64 0] := ⟨Tryd.zeroValue31, _, Tryd.runUnderlying31, fun w => by kernel_rfl⟩
theorem S45 : Stru Tryd.prog 45 [(0, 1), (1, 1), (2, 1), (3, 1), (4, 1), (5, 1), (6, 1), (7, 1)] [.int .i64 0, .int .i64 0, .int .i64 0, .int .i64 0, .int .i64 0, .int .i64 0, .int .i64 0, .slice none 0 0] := ⟨Tryd.zeroValue45, _, Tryd.runUnderlying45, fun w => by kernel_rfl⟩
theorem S54 : Stru Tryd.prog 54 [(0, 1), (1, 1)] [.int .u32 0, .slice none 0 0] := ⟨Tryd.zeroValue54, _, Tryd.runUnderlying54, fun w => by kernel_rfl⟩
theorem S82 : Stru Tryd.prog 82 [(0, 1), (1, 1)] [.slice none 0 0, .bool false] := ⟨Tryd.zeroValue82, _, Tryd.runUnderlying82, fun w => by kernel_rfl⟩
end Go.Sx

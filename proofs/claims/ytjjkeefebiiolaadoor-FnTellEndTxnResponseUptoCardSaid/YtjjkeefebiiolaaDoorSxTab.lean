import Derived.Test.YtjjkeefebiiolaaDoorProg
import Derived.Test.YtjjkeefebiiolaaDoorLibA
import Derived.KernelRfl
set_option linter.unusedVariables false
set_option linter.unusedSimpArgs false
namespace Go.Sx
open Go.Proofs
theorem mixed : Tryd.prog.follows .mixedOrders = true := by kernel_rfl
theorem F26_0 : FieldOff Tryd.prog 26 0 0 := FieldOff.mk Tryd.runUnderlying26 rfl Tryd.sizeOf2 rfl rfl
theorem F26_1 : FieldOff Tryd.prog 26 1 1 := FieldOff.mk Tryd.runUnderlying26 rfl Tryd.sizeOf22 rfl rfl
theorem F26_2 : FieldOff Tryd.prog 26 2 2 := FieldOff.mk Tryd.runUnderlying26 rfl Tryd.sizeOf4 rfl rfl
theorem F26_3 : FieldOff Tryd.prog 26 3 3 := FieldOff.mk Tryd.runUnderlying26 rfl Tryd.sizeOf23 rfl rfl
theorem F26_4 : FieldOff Tryd.prog 26 4 4 := FieldOff.mk Tryd.runUnderlying26 rfl Tryd.sizeOf24 rfl rfl
theorem F31_0 : FieldOff Tryd.prog 31 0 0 := FieldOff.mk Tryd.runUnderlying31 rfl Tryd.sizeOf29 rfl rfl
theorem F31_1 : FieldOff Tryd.prog 31 1 1 := FieldOff.mk Tryd.runUnderlying31 rfl Tryd.sizeOf3 rfl rfl
theorem F37_0 : FieldOff Tryd.prog 37 0 0 := FieldOff.mk Tryd.runUnderlying37 rfl Tryd.sizeOf2 rfl rfl
theorem F37_1 : FieldOff Tryd.prog 37 1 1 := FieldOff.mk Tryd.runUnderlying37 rfl Tryd.sizeOf22 rfl rfl
theorem F37_2 : FieldOff Tryd.prog 37 2 2 := FieldOff.mk Tryd.runUnderlying37 rfl Tryd.sizeOf4 rfl rfl
theorem F37_3 : FieldOff Tryd.prog 37 3 3 := FieldOff.mk Tryd.runUnderlying37 rfl Tryd.sizeOf34 rfl rfl
theorem F37_4 : FieldOff Tryd.prog 37 4 4 := FieldOff.mk Tryd.runUnderlying37 rfl Tryd.sizeOf35 rfl rfl
theorem F51_0 : FieldOff Tryd.prog 51 0 0 := FieldOff.mk Tryd.runUnderlying51 rfl Tryd.sizeOf3 rfl rfl
theorem F51_1 : FieldOff Tryd.prog 51 1 1 := FieldOff.mk Tryd.runUnderlying51 rfl Tryd.sizeOf3 rfl rfl
theorem F51_2 : FieldOff Tryd.prog 51 2 2 := FieldOff.mk Tryd.runUnderlying51 rfl Tryd.sizeOf3 rfl rfl
theorem F51_3 : FieldOff Tryd.prog 51 3 3 := FieldOff.mk Tryd.runUnderlying51 rfl Tryd.sizeOf3 rfl rfl
theorem F51_4 : FieldOff Tryd.prog 51 4 4 := FieldOff.mk Tryd.runUnderlying51 rfl Tryd.sizeOf3 rfl rfl
theorem F51_5 : FieldOff Tryd.prog 51 5 5 := FieldOff.mk Tryd.runUnderlying51 rfl Tryd.sizeOf2 rfl rfl
theorem F51_6 : FieldOff Tryd.prog 51 6 6 := FieldOff.mk Tryd.runUnderlying51 rfl Tryd.sizeOf3 rfl rfl
theorem F51_7 : FieldOff Tryd.prog 51 7 7 := FieldOff.mk Tryd.runUnderlying51 rfl Tryd.sizeOf29 rfl rfl
theorem F65_0 : FieldOff Tryd.prog 65 0 0 := FieldOff.mk Tryd.runUnderlying65 rfl Tryd.sizeOf63 rfl rfl
theorem F65_1 : FieldOff Tryd.prog 65 1 1 := FieldOff.mk Tryd.runUnderlying65 rfl Tryd.sizeOf22 rfl rfl
theorem F68_0 : FieldOff Tryd.prog 68 0 0 := FieldOff.mk Tryd.runUnderlying68 rfl Tryd.sizeOf63 rfl rfl
theorem F68_1 : FieldOff Tryd.prog 68 1 1 := FieldOff.mk Tryd.runUnderlying68 rfl Tryd.sizeOf22 rfl rfl
theorem F75_0 : FieldOff Tryd.prog 75 0 0 := FieldOff.mk Tryd.runUnderlying75 rfl Tryd.sizeOf46 rfl rfl
theorem F75_1 : FieldOff Tryd.prog 75 1 1 := FieldOff.mk Tryd.runUnderlying75 rfl Tryd.sizeOf46 rfl rfl
theorem F75_2 : FieldOff Tryd.prog 75 2 2 := FieldOff.mk Tryd.runUnderlying75 rfl Tryd.sizeOf73 rfl rfl
theorem F88_0 : FieldOff Tryd.prog 88 0 0 := FieldOff.mk Tryd.runUnderlying88 rfl Tryd.sizeOf86 rfl rfl
theorem F90_0 : FieldOff Tryd.prog 90 0 0 := FieldOff.mk Tryd.runUnderlying90 rfl Tryd.sizeOf46 rfl rfl
theorem F90_1 : FieldOff Tryd.prog 90 1 1 := FieldOff.mk Tryd.runUnderlying90 rfl Tryd.sizeOf21 rfl rfl
theorem F90_2 : FieldOff Tryd.prog 90 2 2 := FieldOff.mk Tryd.runUnderlying90 rfl Tryd.sizeOf46 rfl rfl
theorem F90_3 : FieldOff Tryd.prog 90 3 3 := FieldOff.mk Tryd.runUnderlying90 rfl Tryd.sizeOf2 rfl rfl
theorem F90_4 : FieldOff Tryd.prog 90 4 4 := FieldOff.mk Tryd.runUnderlying90 rfl Tryd.sizeOf46 rfl rfl
theorem F90_5 : FieldOff Tryd.prog 90 5 5 := FieldOff.mk Tryd.runUnderlying90 rfl Tryd.sizeOf88 rfl rfl
theorem F95_0 : FieldOff Tryd.prog 95 0 0 := FieldOff.mk Tryd.runUnderlying95 rfl Tryd.sizeOf22 rfl rfl
theorem F95_1 : FieldOff Tryd.prog 95 1 1 := FieldOff.mk Tryd.runUnderlying95 rfl Tryd.sizeOf4 rfl rfl
theorem I26 : TI Tryd.prog 26 5 88 (.agg #[.int .i64 0, .slice none 0 0, .bool false, .slice none 0 0, .slice none 0 0]) := TI.mk_run Tryd.typeInfo26 rfl rfl rfl (by decide) rfl
theorem I37 : TI Tryd.prog 37 5 88 (.agg #[.int .i64 0, .slice none 0 0, .bool false, .slice none 0 0, .slice none 0 0]) := TI.mk_run Tryd.typeInfo37 rfl rfl rfl (by decide) rfl
theorem I5 : TI Tryd.prog 5 1 1 (.int .u8 0) := TI.mk_run Tryd.typeInfo5 rfl rfl rfl (by decide) rfl
theorem I63 : TI Tryd.prog 63 1 4 (.int .u32 0) := TI.mk_run Tryd.typeInfo63 rfl rfl rfl (by decide) rfl
theorem I65 : TI Tryd.prog 65 2 32 (.agg #[.int .u32 0, .slice none 0 0]) := TI.mk_run Tryd.typeInfo65 rfl rfl rfl (by decide) rfl
theorem I68 : TI Tryd.prog 68 2 32 (.agg #[.int .u32 0, .slice none 0 0]) := TI.mk_run Tryd.typeInfo68 rfl rfl rfl (by decide) rfl
theorem I9 : TI Tryd.prog 9 1 16 (.string ⟨#[]⟩) := TI.mk_run Tryd.typeInfo9 rfl rfl rfl (by decide) rfl
theorem L109 : Sli Tryd.prog 109 63 1 [.int .u32 0] := ⟨Tryd.runUnderlying109, Tryd.sizeOf63, ⟨_, Tryd.zeroValue63, rfl⟩, rfl, rfl⟩
theorem L22 : Sli Tryd.prog 22 5 1 [.int .u8 0] := ⟨Tryd.runUnderlying22, Tryd.sizeOf5, ⟨_, Tryd.zeroValue5, rfl⟩, rfl, rfl⟩
theorem L23 : Sli Tryd.prog 23 26 5 [.int .i64 0, .slice none 0 0, .bool false, .slice none 0 0, .slice none 0 0] := ⟨Tryd.runUnderlying23, Tryd.sizeOf26, ⟨_, Tryd.zeroValue26, rfl⟩, rfl, rfl⟩
theorem L24 : Sli Tryd.prog 24 65 2 [.int .u32 0, .slice none 0 0] := ⟨Tryd.runUnderlying24, Tryd.sizeOf65, ⟨_, Tryd.zeroValue65, rfl⟩, rfl, rfl⟩
theorem L29 : Sli Tryd.prog 29 51 8 [.int .i64 0, .int .i64 0, .int .i64 0, .int .i64 0, .int .i64 0, .int .i64 0, .int .i64 0, .slice none 0 0] := ⟨Tryd.runUnderlying29, Tryd.sizeOf51, ⟨_, Tryd.zeroValue51, rfl⟩, rfl, rfl⟩
theorem L34 : Sli Tryd.prog 34 37 5 [.int .i64 0, .slice none 0 0, .bool false, .slice none 0 0, .slice none 0 0] := ⟨Tryd.runUnderlying34, Tryd.sizeOf37, ⟨_, Tryd.zeroValue37, rfl⟩, rfl, rfl⟩
theorem L35 : Sli Tryd.prog 35 68 2 [.int .u32 0, .slice none 0 0] := ⟨Tryd.runUnderlying35, Tryd.sizeOf68, ⟨_, Tryd.zeroValue68, rfl⟩, rfl, rfl⟩
theorem S26 : Stru Tryd.prog 26 [(0, 1), (1, 1), (2, 1), (3, 1), (4, 1)] [.int .i64 0, .slice none 0 0, .bool false, .slice none 0 0, .slice none 0 0] := ⟨Tryd.zeroValue26, _, Tryd.runUnderlying26, fun w => by kernel_rfl⟩
theorem S31 : Stru Tryd.prog 31 [(0, 1), (1, 1)] [.slice none 0 0, .int .i64 0] := ⟨Tryd.zeroValue31, _, Tryd.runUnderlying31, fun w => by kernel_rfl⟩
theorem S37 : Stru Tryd.prog 37 [(0, 1), (1, 1), (2, 1), (3, 1), (4, 1)] [.int .i64 0, .slice none 0 0, .bool false, .slice none 0 0, .slice none 0 0] := ⟨Tryd.zeroValue37, _, Tryd.runUnderlying37, fun w => by kernel_rfl⟩
theorem S51 : Stru Tryd.prog 51 [(0, 1), (1, 1), (2, 1), (3, 1), (4, 1), (5, 1), (6, 1), (7, 1)] [.int .i64 0, .int .i64 0, .int .i64 0, .int .i64 0, .int .i64 0, .int .i64 0, .int .i64 0, .slice none 0 0] := ⟨Tryd.zeroValue51, _, Tryd.runUnderlying51, fun w => by kernel_rfl⟩
theorem S65 : Stru Tryd.prog 65 [(0, 1), (1, 1)] [.int .u32 0, .slice none 0 0] := ⟨Tryd.zeroValue65, _, Tryd.runUnderlying65, fun w => by kernel_rfl⟩
theorem S68 : Stru Tryd.prog 68 [(0, 1), (1, 1)] [.int .u32 0, .slice none 0 0] := ⟨Tryd.zeroValue68, _, Tryd.runUnderlying68, fun w => by kernel_rfl⟩
theorem S95 : Stru Tryd.prog 95 [(0, 1), (1, 1)] [.slice none 0 0, .bool false] := ⟨Tryd.zeroValue95, _, Tryd.runUnderlying95, fun w => by kernel_rfl⟩
end Go.Sx

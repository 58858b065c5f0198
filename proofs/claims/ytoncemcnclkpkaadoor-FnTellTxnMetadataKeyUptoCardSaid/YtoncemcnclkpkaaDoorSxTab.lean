import Derived.Test.YtoncemcnclkpkaaDoorProg
import Derived.Test.YtoncemcnclkpkaaDoorLibA
import Derived.KernelRfl
set_option linter.unusedVariables false
set_option linter.unusedSimpArgs false
namespace Go.Sx
open Go.Proofs
theorem mixed : Tryd.prog.follows .mixedOrders = true := by kernel_rfl
theorem F112_0 : FieldOff Tryd.prog 112 0 0 := FieldOff.mk Tryd.runUnderlying112 rfl Tryd.sizeOf47 rfl rfl
theorem F112_1 : FieldOff Tryd.prog 112 1 1 := FieldOff.mk Tryd.runUnderlying112 rfl Tryd.sizeOf21 rfl rfl
theorem F112_2 : FieldOff Tryd.prog 112 2 2 := FieldOff.mk Tryd.runUnderlying112 rfl Tryd.sizeOf2 rfl rfl
theorem F112_3 : FieldOff Tryd.prog 112 3 3 := FieldOff.mk Tryd.runUnderlying112 rfl Tryd.sizeOf95 rfl rfl
theorem F114_0 : FieldOff Tryd.prog 114 0 0 := FieldOff.mk Tryd.runUnderlying114 rfl Tryd.sizeOf47 rfl rfl
theorem F114_1 : FieldOff Tryd.prog 114 1 1 := FieldOff.mk Tryd.runUnderlying114 rfl Tryd.sizeOf22 rfl rfl
theorem F114_2 : FieldOff Tryd.prog 114 2 2 := FieldOff.mk Tryd.runUnderlying114 rfl Tryd.sizeOf95 rfl rfl
theorem F117_0 : FieldOff Tryd.prog 117 0 0 := FieldOff.mk Tryd.runUnderlying117 rfl Tryd.sizeOf47 rfl rfl
theorem F117_1 : FieldOff Tryd.prog 117 1 1 := FieldOff.mk Tryd.runUnderlying117 rfl Tryd.sizeOf22 rfl rfl
theorem F117_2 : FieldOff Tryd.prog 117 2 2 := FieldOff.mk Tryd.runUnderlying117 rfl Tryd.sizeOf2 rfl rfl
theorem F117_3 : FieldOff Tryd.prog 117 3 3 := FieldOff.mk Tryd.runUnderlying117 rfl Tryd.sizeOf95 rfl rfl
theorem F119_0 : FieldOff Tryd.prog 119 0 0 := FieldOff.mk Tryd.runUnderlying119 rfl Tryd.sizeOf47 rfl rfl
theorem F119_1 : FieldOff Tryd.prog 119 1 1 := FieldOff.mk Tryd.runUnderlying119 rfl Tryd.sizeOf9 rfl rfl
theorem F119_2 : FieldOff Tryd.prog 119 2 2 := FieldOff.mk Tryd.runUnderlying119 rfl Tryd.sizeOf2 rfl rfl
theorem F119_3 : FieldOff Tryd.prog 119 3 3 := FieldOff.mk Tryd.runUnderlying119 rfl Tryd.sizeOf47 rfl rfl
theorem F119_4 : FieldOff Tryd.prog 119 4 4 := FieldOff.mk Tryd.runUnderlying119 rfl Tryd.sizeOf9 rfl rfl
theorem F119_5 : FieldOff Tryd.prog 119 5 5 := FieldOff.mk Tryd.runUnderlying119 rfl Tryd.sizeOf95 rfl rfl
theorem F122_0 : FieldOff Tryd.prog 122 0 0 := FieldOff.mk Tryd.runUnderlying122 rfl Tryd.sizeOf47 rfl rfl
theorem F122_1 : FieldOff Tryd.prog 122 1 1 := FieldOff.mk Tryd.runUnderlying122 rfl Tryd.sizeOf120 rfl rfl
theorem F122_2 : FieldOff Tryd.prog 122 2 2 := FieldOff.mk Tryd.runUnderlying122 rfl Tryd.sizeOf95 rfl rfl
theorem F124_0 : FieldOff Tryd.prog 124 0 0 := FieldOff.mk Tryd.runUnderlying124 rfl Tryd.sizeOf22 rfl rfl
theorem F124_1 : FieldOff Tryd.prog 124 1 1 := FieldOff.mk Tryd.runUnderlying124 rfl Tryd.sizeOf4 rfl rfl
theorem F26_0 : FieldOff Tryd.prog 26 0 0 := FieldOff.mk Tryd.runUnderlying26 rfl Tryd.sizeOf2 rfl rfl
theorem F26_1 : FieldOff Tryd.prog 26 1 1 := FieldOff.mk Tryd.runUnderlying26 rfl Tryd.sizeOf22 rfl rfl
theorem F26_2 : FieldOff Tryd.prog 26 2 2 := FieldOff.mk Tryd.runUnderlying26 rfl Tryd.sizeOf4 rfl rfl
theorem F26_3 : FieldOff Tryd.prog 26 3 3 := FieldOff.mk Tryd.runUnderlying26 rfl Tryd.sizeOf23 rfl rfl
theorem F26_4 : FieldOff Tryd.prog 26 4 4 := FieldOff.mk Tryd.runUnderlying26 rfl Tryd.sizeOf24 rfl rfl
theorem F31_0 : FieldOff Tryd.prog 31 0 0 := FieldOff.mk Tryd.runUnderlying31 rfl Tryd.sizeOf29 rfl rfl
theorem F31_1 : FieldOff Tryd.prog 31 1 1 := FieldOff.mk Tryd.runUnderlying31 rfl Tryd.sizeOf3 rfl rfl
theorem F37_0 : FieldOff Tryd.prog 37 0 0 := FieldOff.mk Tryd.runUnderlying37 rfl Tryd.sizeOf2 rfl rfl
theorem F37_1 : FieldOff Tryd.prog 37 1 1 := FieldOff.mk Tryd.runUnderlying37 rfl Tryd.sizeOf22 rfl rfl
theorem F37_2 : FieldOff Tryd.prog 37 2 2 := FieldOff.mk Tryd.runUnderlying37 rfl Tryd.sizeOf4 rfl rfl
theorem F37_3 : FieldOff Tryd.prog 37 3 3 := FieldOff.mk Tryd.runUnderlying37 rfl Tryd.sizeOf34 rfl rfl
theorem F37_4 : FieldOff Tryd.prog 37 4 4 := FieldOff.mk Tryd.runUnderlying37 rfl Tryd.sizeOf35 rfl rfl
theorem F52_0 : FieldOff Tryd.prog 52 0 0 := FieldOff.mk Tryd.runUnderlying52 rfl Tryd.sizeOf3 rfl rfl
theorem F52_1 : FieldOff Tryd.prog 52 1 1 := FieldOff.mk Tryd.runUnderlying52 rfl Tryd.sizeOf3 rfl rfl
theorem F52_2 : FieldOff Tryd.prog 52 2 2 := FieldOff.mk Tryd.runUnderlying52 rfl Tryd.sizeOf3 rfl rfl
theorem F52_3 : FieldOff Tryd.prog 52 3 3 := FieldOff.mk Tryd.runUnderlying52 rfl Tryd.sizeOf3 rfl rfl
theorem F52_4 : FieldOff Tryd.prog 52 4 4 := FieldOff.mk Tryd.runUnderlying52 rfl Tryd.sizeOf3 rfl rfl
theorem F52_5 : FieldOff Tryd.prog 52 5 5 := FieldOff.mk Tryd.runUnderlying52 rfl Tryd.sizeOf2 rfl rfl
theorem F52_6 : FieldOff Tryd.prog 52 6 6 := FieldOff.mk Tryd.runUnderlying52 rfl Tryd.sizeOf3 rfl rfl
theorem F52_7 : FieldOff Tryd.prog 52 7 7 := FieldOff.mk Tryd.runUnderlying52 rfl Tryd.sizeOf29 rfl rfl
theorem F66_0 : FieldOff Tryd.prog 66 0 0 := FieldOff.mk Tryd.runUnderlying66 rfl Tryd.sizeOf64 rfl rfl
theorem F66_1 : FieldOff Tryd.prog 66 1 1 := FieldOff.mk Tryd.runUnderlying66 rfl Tryd.sizeOf22 rfl rfl
theorem F69_0 : FieldOff Tryd.prog 69 0 0 := FieldOff.mk Tryd.runUnderlying69 rfl Tryd.sizeOf64 rfl rfl
theorem F69_1 : FieldOff Tryd.prog 69 1 1 := FieldOff.mk Tryd.runUnderlying69 rfl Tryd.sizeOf22 rfl rfl
theorem F86_0 : FieldOff Tryd.prog 86 0 0 := FieldOff.mk Tryd.runUnderlying86 rfl Tryd.sizeOf47 rfl rfl
theorem F86_1 : FieldOff Tryd.prog 86 1 1 := FieldOff.mk Tryd.runUnderlying86 rfl Tryd.sizeOf9 rfl rfl
theorem F95_0 : FieldOff Tryd.prog 95 0 0 := FieldOff.mk Tryd.runUnderlying95 rfl Tryd.sizeOf93 rfl rfl
theorem F97_0 : FieldOff Tryd.prog 97 0 0 := FieldOff.mk Tryd.runUnderlying97 rfl Tryd.sizeOf47 rfl rfl
theorem F97_1 : FieldOff Tryd.prog 97 1 1 := FieldOff.mk Tryd.runUnderlying97 rfl Tryd.sizeOf4 rfl rfl
theorem F97_2 : FieldOff Tryd.prog 97 2 2 := FieldOff.mk Tryd.runUnderlying97 rfl Tryd.sizeOf92 rfl rfl
theorem F97_3 : FieldOff Tryd.prog 97 3 3 := FieldOff.mk Tryd.runUnderlying97 rfl Tryd.sizeOf4 rfl rfl
theorem F97_4 : FieldOff Tryd.prog 97 4 4 := FieldOff.mk Tryd.runUnderlying97 rfl Tryd.sizeOf95 rfl rfl
theorem I26 : TI Tryd.prog 26 5 88 (.agg #[.int .i64 0, .slice none 0 0, .bool false, .slice none 0 0, .slice none 0 0]) := TI.mk_run Tryd.typeInfo26 rfl rfl rfl (by decide) rfl
theorem I37 : TI Tryd.prog 37 5 88 (.agg #[.int .i64 0, .slice none 0 0, .bool false, .slice none 0 0, .slice none 0 0]) := TI.mk_run Tryd.typeInfo37 rfl rfl rfl (by decide) rfl
theorem I5 : TI Tryd.prog 5 1 1 (.int .u8 0) := TI.mk_run Tryd.typeInfo5 rfl rfl rfl (by decide) rfl
theorem I64 : TI Tryd.prog 64 1 4 (.int .u32 0) := TI.mk_run Tryd.typeInfo64 rfl rfl rfl (by decide) rfl
theorem I66 : TI Tryd.prog 66 2 32 (.agg #[.int .u32 0, .slice none 0 0]) := TI.mk_run Tryd.typeInfo66 rfl rfl rfl (by decide) rfl
theorem I69 : TI Tryd.prog 69 2 32 (.agg #[.int .u32 0, .slice none 0 0]) := TI.mk_run Tryd.typeInfo69 rfl rfl rfl (by decide) rfl
theorem I9 : TI Tryd.prog 9 1 16 (.string ⟨#[]⟩) := TI.mk_run Tryd.typeInfo9 rfl rfl rfl (by decide) rfl
theorem L131 : Sli Tryd.prog 131 64 1 [.int .u32 0] := ⟨Tryd.runUnderlying131, Tryd.sizeOf64, ⟨_, Tryd.zeroValue64, rfl⟩, rfl, rfl⟩
theorem L22 : Sli Tryd.prog 22 5 1 [.int .u8 0] := ⟨Tryd.runUnderlying22, Tryd.sizeOf5, ⟨_, Tryd.zeroValue5, rfl⟩, rfl, rfl⟩
theorem L23 : Sli Tryd.prog 23 26 5 [.int .i64 0, .slice none 0 0, .bool false, .slice none 0 0, .slice none 0 0] := ⟨Tryd.runUnderlying23, Tryd.sizeOf26, ⟨_, Tryd.zeroValue26, rfl⟩, rfl, rfl⟩
theorem L24 : Sli Tryd.prog 24 66 2 [.int .u32 0, .slice none 0 0] := ⟨Tryd.runUnderlying24, Tryd.sizeOf66, ⟨_, Tryd.zeroValue66, rfl⟩, rfl, rfl⟩
theorem L29 : Sli Tryd.prog 29 52 8 [.int .i64 0, .int .i64 0, .int .i64 0, .int .i64 0, .int .i64 0, .int .i64 0, .int .i64 0, .slice none 0 0] := ⟨Tryd.runUnderlying29, Tryd.sizeOf52, ⟨_, Tryd.zeroValue52, rfl⟩, rfl, rfl⟩
theorem L34 : Sli Tryd.prog 34 37 5 [.int .i64 0, .slice none 0 0, .bool false, .slice none 0 0, .slice none 0 0] := ⟨Tryd.runUnderlying34, Tryd.sizeOf37, ⟨_, Tryd.zeroValue37, rfl⟩, rfl, rfl⟩
theorem L35 : Sli Tryd.prog 35 69 2 [.int .u32 0, .slice none 0 0] := ⟨Tryd.runUnderlying35, Tryd.sizeOf69, ⟨_, Tryd.zeroValue69, rfl⟩, rfl, rfl⟩
theorem S124 : Stru Tryd.prog 124 [(0, 1), (1, 1)] [.slice none 0 0, .bool false] := ⟨Tryd.zeroValue124, _, Tryd.runUnderlying124, fun w => by kernel_rfl⟩
theorem S26 : Stru Tryd.prog 26 [(0, 1), (1, 1), (2, 1), (3, 1), (4, 1)] [.int .i64 0, .slice none 0 0, .bool false, .slice none 0 0, .slice none 0 0] := ⟨Tryd.zeroValue26, _, Tryd.runUnderlying26, fun w => by kernel_rfl⟩
theorem S31 : Stru Tryd.prog 31 [(0, 1), (1, 1)] [.slice none 0 0, .int .i64 0] := ⟨Tryd.zeroValue31, _, Tryd.runUnderlying31, fun w => by kernel_rfl⟩
theorem S37 : Stru Tryd.prog 37 [(0, 1), (1, 1), (2, 1), (3, 1), (4, 1)] [.int .i64 0, .slice none 0 0, .bool false, .slice none 0 0, .slice none 0 0] := ⟨Tryd.zeroValue37, _, Tryd.runUnderlying37, fun w => by kernel_rfl⟩
theorem S52 : Stru Tryd.prog 52 [(0, 1), (1, 1), (2, 1), (3, 1), (4, 1), (5, 1), (6, 1), (7, 1)] [.int .i64 0, .int .i64 0, .int .i64 0, .int .i64 0, .int .i64 0, .int .i64 0, .int .i64 0, .slice none 0 0] := ⟨Tryd.zeroValue52, _, Tryd.runUnderlying52, fun w => by kernel_rfl⟩
theorem S66 : Stru Tryd.prog 66 [(0, 1), (1, 1)] [.int .u32 0, .slice none 0 0] := ⟨Tryd.zeroValue66, _, Tryd.runUnderlying66, fun w => by kernel_rfl⟩
theorem S69 : Stru Tryd.prog 69 [(0, 1), (1, 1)] [.int .u32 0, .slice none 0 0] := ⟨Tryd.zeroValue69, _, Tryd.runUnderlying69, fun w => by kernel_rfl⟩
end Go.Sx

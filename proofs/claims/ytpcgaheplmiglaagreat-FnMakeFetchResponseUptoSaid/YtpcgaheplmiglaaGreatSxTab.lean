import Derived.Test.YtpcgaheplmiglaaGreatProg
import Derived.Test.YtpcgaheplmiglaaGreatLibA
import Derived.KernelRfl
set_option linter.unusedVariables false
set_option linter.unusedSimpArgs false
namespace Go.Sx
open Go.Proofs
theorem mixed : Tryz.prog.follows .mixedOrders = true := by kernel_rfl
theorem C39_0 : FieldCell Tryz.prog 39 0 0 := FieldCell.mk Tryz.runUnderlying39 rfl Tryz.isAgg2 rfl
theorem C39_1 : FieldCell Tryz.prog 39 1 1 := FieldCell.mk Tryz.runUnderlying39 rfl Tryz.isAgg22 rfl
theorem C39_2 : FieldCell Tryz.prog 39 2 2 := FieldCell.mk Tryz.runUnderlying39 rfl Tryz.isAgg4 rfl
theorem C39_3 : FieldCell Tryz.prog 39 3 3 := FieldCell.mk Tryz.runUnderlying39 rfl Tryz.isAgg36 rfl
theorem F102_0 : FieldOff Tryz.prog 102 0 0 := FieldOff.mk Tryz.runUnderlying102 rfl Tryz.sizeOf2 rfl rfl
theorem F102_1 : FieldOff Tryz.prog 102 1 1 := FieldOff.mk Tryz.runUnderlying102 rfl Tryz.sizeOf2 rfl rfl
theorem F102_2 : FieldOff Tryz.prog 102 2 2 := FieldOff.mk Tryz.runUnderlying102 rfl Tryz.sizeOf56 rfl rfl
theorem F26_0 : FieldOff Tryz.prog 26 0 0 := FieldOff.mk Tryz.runUnderlying26 rfl Tryz.sizeOf2 rfl rfl
theorem F26_1 : FieldOff Tryz.prog 26 1 1 := FieldOff.mk Tryz.runUnderlying26 rfl Tryz.sizeOf22 rfl rfl
theorem F26_2 : FieldOff Tryz.prog 26 2 2 := FieldOff.mk Tryz.runUnderlying26 rfl Tryz.sizeOf4 rfl rfl
theorem F26_3 : FieldOff Tryz.prog 26 3 3 := FieldOff.mk Tryz.runUnderlying26 rfl Tryz.sizeOf23 rfl rfl
theorem F26_4 : FieldOff Tryz.prog 26 4 4 := FieldOff.mk Tryz.runUnderlying26 rfl Tryz.sizeOf24 rfl rfl
theorem F31_0 : FieldOff Tryz.prog 31 0 0 := FieldOff.mk Tryz.runUnderlying31 rfl Tryz.sizeOf29 rfl rfl
theorem F31_1 : FieldOff Tryz.prog 31 1 1 := FieldOff.mk Tryz.runUnderlying31 rfl Tryz.sizeOf3 rfl rfl
theorem F39_1 : FieldOff Tryz.prog 39 1 1 := FieldOff.mk Tryz.runUnderlying39 rfl Tryz.sizeOf22 rfl rfl
theorem F39_2 : FieldOff Tryz.prog 39 2 2 := FieldOff.mk Tryz.runUnderlying39 rfl Tryz.sizeOf4 rfl rfl
theorem F39_3 : FieldOff Tryz.prog 39 3 3 := FieldOff.mk Tryz.runUnderlying39 rfl Tryz.sizeOf36 rfl rfl
theorem F39_4 : FieldOff Tryz.prog 39 4 4 := FieldOff.mk Tryz.runUnderlying39 rfl Tryz.sizeOf37 rfl rfl
theorem F50_0 : FieldOff Tryz.prog 50 0 0 := FieldOff.mk Tryz.runUnderlying50 rfl Tryz.sizeOf3 rfl rfl
theorem F50_1 : FieldOff Tryz.prog 50 1 1 := FieldOff.mk Tryz.runUnderlying50 rfl Tryz.sizeOf3 rfl rfl
theorem F50_2 : FieldOff Tryz.prog 50 2 2 := FieldOff.mk Tryz.runUnderlying50 rfl Tryz.sizeOf3 rfl rfl
theorem F50_3 : FieldOff Tryz.prog 50 3 3 := FieldOff.mk Tryz.runUnderlying50 rfl Tryz.sizeOf3 rfl rfl
theorem F50_4 : FieldOff Tryz.prog 50 4 4 := FieldOff.mk Tryz.runUnderlying50 rfl Tryz.sizeOf3 rfl rfl
theorem F50_5 : FieldOff Tryz.prog 50 5 5 := FieldOff.mk Tryz.runUnderlying50 rfl Tryz.sizeOf2 rfl rfl
theorem F50_6 : FieldOff Tryz.prog 50 6 6 := FieldOff.mk Tryz.runUnderlying50 rfl Tryz.sizeOf3 rfl rfl
theorem F50_7 : FieldOff Tryz.prog 50 7 7 := FieldOff.mk Tryz.runUnderlying50 rfl Tryz.sizeOf29 rfl rfl
theorem F56_0 : FieldOff Tryz.prog 56 0 0 := FieldOff.mk Tryz.runUnderlying56 rfl Tryz.sizeOf54 rfl rfl
theorem F58_0 : FieldOff Tryz.prog 58 0 0 := FieldOff.mk Tryz.runUnderlying58 rfl Tryz.sizeOf45 rfl rfl
theorem F58_1 : FieldOff Tryz.prog 58 1 1 := FieldOff.mk Tryz.runUnderlying58 rfl Tryz.sizeOf21 rfl rfl
theorem F58_2 : FieldOff Tryz.prog 58 2 2 := FieldOff.mk Tryz.runUnderlying58 rfl Tryz.sizeOf45 rfl rfl
theorem F58_3 : FieldOff Tryz.prog 58 3 3 := FieldOff.mk Tryz.runUnderlying58 rfl Tryz.sizeOf21 rfl rfl
theorem F58_4 : FieldOff Tryz.prog 58 4 4 := FieldOff.mk Tryz.runUnderlying58 rfl Tryz.sizeOf52 rfl rfl
theorem F58_5 : FieldOff Tryz.prog 58 5 5 := FieldOff.mk Tryz.runUnderlying58 rfl Tryz.sizeOf53 rfl rfl
theorem F58_6 : FieldOff Tryz.prog 58 6 6 := FieldOff.mk Tryz.runUnderlying58 rfl Tryz.sizeOf56 rfl rfl
theorem F64_0 : FieldOff Tryz.prog 64 0 0 := FieldOff.mk Tryz.runUnderlying64 rfl Tryz.sizeOf62 rfl rfl
theorem F64_1 : FieldOff Tryz.prog 64 1 1 := FieldOff.mk Tryz.runUnderlying64 rfl Tryz.sizeOf22 rfl rfl
theorem F65_0 : FieldOff Tryz.prog 65 0 0 := FieldOff.mk Tryz.runUnderlying65 rfl Tryz.sizeOf62 rfl rfl
theorem F65_1 : FieldOff Tryz.prog 65 1 1 := FieldOff.mk Tryz.runUnderlying65 rfl Tryz.sizeOf22 rfl rfl
theorem F75_0 : FieldOff Tryz.prog 75 0 0 := FieldOff.mk Tryz.runUnderlying75 rfl Tryz.sizeOf9 rfl rfl
theorem F75_1 : FieldOff Tryz.prog 75 1 1 := FieldOff.mk Tryz.runUnderlying75 rfl Tryz.sizeOf72 rfl rfl
theorem F75_2 : FieldOff Tryz.prog 75 2 17 := FieldOff.mk Tryz.runUnderlying75 rfl Tryz.sizeOf73 rfl rfl
theorem F75_3 : FieldOff Tryz.prog 75 3 18 := FieldOff.mk Tryz.runUnderlying75 rfl Tryz.sizeOf56 rfl rfl
theorem F79_0 : FieldOff Tryz.prog 79 0 0 := FieldOff.mk Tryz.runUnderlying79 rfl Tryz.sizeOf21 rfl rfl
theorem F79_1 : FieldOff Tryz.prog 79 1 1 := FieldOff.mk Tryz.runUnderlying79 rfl Tryz.sizeOf9 rfl rfl
theorem F79_2 : FieldOff Tryz.prog 79 2 2 := FieldOff.mk Tryz.runUnderlying79 rfl Tryz.sizeOf21 rfl rfl
theorem F79_3 : FieldOff Tryz.prog 79 3 3 := FieldOff.mk Tryz.runUnderlying79 rfl Tryz.sizeOf77 rfl rfl
theorem F79_4 : FieldOff Tryz.prog 79 4 4 := FieldOff.mk Tryz.runUnderlying79 rfl Tryz.sizeOf56 rfl rfl
theorem F90_0 : FieldOff Tryz.prog 90 0 0 := FieldOff.mk Tryz.runUnderlying90 rfl Tryz.sizeOf21 rfl rfl
theorem F90_1 : FieldOff Tryz.prog 90 1 1 := FieldOff.mk Tryz.runUnderlying90 rfl Tryz.sizeOf2 rfl rfl
theorem F90_2 : FieldOff Tryz.prog 90 2 2 := FieldOff.mk Tryz.runUnderlying90 rfl Tryz.sizeOf56 rfl rfl
theorem F92_0 : FieldOff Tryz.prog 92 0 0 := FieldOff.mk Tryz.runUnderlying92 rfl Tryz.sizeOf21 rfl rfl
theorem F92_1 : FieldOff Tryz.prog 92 1 1 := FieldOff.mk Tryz.runUnderlying92 rfl Tryz.sizeOf21 rfl rfl
theorem F92_2 : FieldOff Tryz.prog 92 2 2 := FieldOff.mk Tryz.runUnderlying92 rfl Tryz.sizeOf56 rfl rfl
theorem F94_0 : FieldOff Tryz.prog 94 0 0 := FieldOff.mk Tryz.runUnderlying94 rfl Tryz.sizeOf2 rfl rfl
theorem F94_1 : FieldOff Tryz.prog 94 1 1 := FieldOff.mk Tryz.runUnderlying94 rfl Tryz.sizeOf21 rfl rfl
theorem F94_2 : FieldOff Tryz.prog 94 2 2 := FieldOff.mk Tryz.runUnderlying94 rfl Tryz.sizeOf56 rfl rfl
theorem F97_0 : FieldOff Tryz.prog 97 0 0 := FieldOff.mk Tryz.runUnderlying97 rfl Tryz.sizeOf21 rfl rfl
theorem F97_1 : FieldOff Tryz.prog 97 1 1 := FieldOff.mk Tryz.runUnderlying97 rfl Tryz.sizeOf45 rfl rfl
theorem F97_10 : FieldOff Tryz.prog 97 10 16 := FieldOff.mk Tryz.runUnderlying97 rfl Tryz.sizeOf22 rfl rfl
theorem F97_11 : FieldOff Tryz.prog 97 11 17 := FieldOff.mk Tryz.runUnderlying97 rfl Tryz.sizeOf56 rfl rfl
theorem F97_2 : FieldOff Tryz.prog 97 2 2 := FieldOff.mk Tryz.runUnderlying97 rfl Tryz.sizeOf2 rfl rfl
theorem F97_3 : FieldOff Tryz.prog 97 3 3 := FieldOff.mk Tryz.runUnderlying97 rfl Tryz.sizeOf2 rfl rfl
theorem F97_4 : FieldOff Tryz.prog 97 4 4 := FieldOff.mk Tryz.runUnderlying97 rfl Tryz.sizeOf2 rfl rfl
theorem F97_5 : FieldOff Tryz.prog 97 5 5 := FieldOff.mk Tryz.runUnderlying97 rfl Tryz.sizeOf90 rfl rfl
theorem F97_6 : FieldOff Tryz.prog 97 6 8 := FieldOff.mk Tryz.runUnderlying97 rfl Tryz.sizeOf92 rfl rfl
theorem F97_7 : FieldOff Tryz.prog 97 7 11 := FieldOff.mk Tryz.runUnderlying97 rfl Tryz.sizeOf94 rfl rfl
theorem F97_8 : FieldOff Tryz.prog 97 8 14 := FieldOff.mk Tryz.runUnderlying97 rfl Tryz.sizeOf95 rfl rfl
theorem F97_9 : FieldOff Tryz.prog 97 9 15 := FieldOff.mk Tryz.runUnderlying97 rfl Tryz.sizeOf21 rfl rfl
theorem I102 : TI Tryz.prog 102 3 24 (.agg #[.int .i64 0, .int .i64 0, .map none]) := TI.mk_run Tryz.typeInfo102 rfl rfl rfl (by decide) rfl
theorem I26 : TI Tryz.prog 26 5 88 (.agg #[.int .i64 0, .slice none 0 0, .bool false, .slice none 0 0, .slice none 0 0]) := TI.mk_run Tryz.typeInfo26 rfl rfl rfl (by decide) rfl
theorem I39 : TI Tryz.prog 39 5 88 (.agg #[.int .i64 0, .slice none 0 0, .bool false, .slice none 0 0, .slice none 0 0]) := TI.mk_run Tryz.typeInfo39 rfl rfl rfl (by decide) rfl
theorem I5 : TI Tryz.prog 5 1 1 (.int .u8 0) := TI.mk_run Tryz.typeInfo5 rfl rfl rfl (by decide) rfl
theorem I62 : TI Tryz.prog 62 1 4 (.int .u32 0) := TI.mk_run Tryz.typeInfo62 rfl rfl rfl (by decide) rfl
theorem I64 : TI Tryz.prog 64 2 32 (.agg #[.int .u32 0, .slice none 0 0]) := TI.mk_run Tryz.typeInfo64 rfl rfl rfl (by decide) rfl
theorem I65 : TI Tryz.prog 65 2 32 (.agg #[.int .u32 0, .slice none 0 0]) := TI.mk_run Tryz.typeInfo65 rfl rfl rfl (by decide) rfl
theorem I75 : TI Tryz.prog 75 19 64 (.agg #[.string ⟨#[]⟩, .int .u8 0, .int .u8 0, .int .u8 0, .int .u8 0, .int .u8 0, .int .u8 0, .int .u8 0, .int .u8 0, .int .u8 0, .int .u8 0, .int .u8 0, .int .u8 0, .int .u8 0, .int .u8 0, .int .u8 0, .int .u8 0, .slice none 0 0, .map none]) := TI.mk_run Tryz.typeInfo75 rfl rfl rfl (by decide) rfl
theorem I79 : TI Tryz.prog 79 5 48 (.agg #[.int .i32 0, .string ⟨#[]⟩, .int .i32 0, .pointer none, .map none]) := TI.mk_run Tryz.typeInfo79 rfl rfl rfl (by decide) rfl
theorem I97 : TI Tryz.prog 97 18 160 (.agg #[.int .i32 0, .int .i16 0, .int .i64 0, .int .i64 0, .int .i64 0, .int .i32 0, .int .i64 0, .map none, .int .i32 0, .int .i32 0, .map none, .int .i64 0, .int .i32 0, .map none, .slice none 0 0, .int .i32 0, .slice none 0 0, .map none]) := TI.mk_run Tryz.typeInfo97 rfl rfl rfl (by decide) rfl
theorem L105 : Sli Tryz.prog 105 62 1 [.int .u32 0] := ⟨Tryz.runUnderlying105, Tryz.sizeOf62, ⟨_, Tryz.zeroValue62, rfl⟩, rfl, rfl⟩
theorem L22 : Sli Tryz.prog 22 5 1 [.int .u8 0] := ⟨Tryz.runUnderlying22, Tryz.sizeOf5, ⟨_, Tryz.zeroValue5, rfl⟩, rfl, rfl⟩
theorem L23 : Sli Tryz.prog 23 26 5 [.int .i64 0, .slice none 0 0, .bool false, .slice none 0 0, .slice none 0 0] := ⟨Tryz.runUnderlying23, Tryz.sizeOf26, ⟨_, Tryz.zeroValue26, rfl⟩, rfl, rfl⟩
theorem L24 : Sli Tryz.prog 24 64 2 [.int .u32 0, .slice none 0 0] := ⟨Tryz.runUnderlying24, Tryz.sizeOf64, ⟨_, Tryz.zeroValue64, rfl⟩, rfl, rfl⟩
theorem L29 : Sli Tryz.prog 29 50 8 [.int .i64 0, .int .i64 0, .int .i64 0, .int .i64 0, .int .i64 0, .int .i64 0, .int .i64 0, .slice none 0 0] := ⟨Tryz.runUnderlying29, Tryz.sizeOf50, ⟨_, Tryz.zeroValue50, rfl⟩, rfl, rfl⟩
theorem L36 : Sli Tryz.prog 36 39 5 [.int .i64 0, .slice none 0 0, .bool false, .slice none 0 0, .slice none 0 0] := ⟨Tryz.runUnderlying36, Tryz.sizeOf39, ⟨_, Tryz.zeroValue39, rfl⟩, rfl, rfl⟩
theorem L37 : Sli Tryz.prog 37 65 2 [.int .u32 0, .slice none 0 0] := ⟨Tryz.runUnderlying37, Tryz.sizeOf65, ⟨_, Tryz.zeroValue65, rfl⟩, rfl, rfl⟩
theorem L52 : Sli Tryz.prog 52 75 19 [.string ⟨#[]⟩, .int .u8 0, .int .u8 0, .int .u8 0, .int .u8 0, .int .u8 0, .int .u8 0, .int .u8 0, .int .u8 0, .int .u8 0, .int .u8 0, .int .u8 0, .int .u8 0, .int .u8 0, .int .u8 0, .int .u8 0, .int .u8 0, .slice none 0 0, .map none] := ⟨Tryz.runUnderlying52, Tryz.sizeOf75, ⟨_, Tryz.zeroValue75, rfl⟩, rfl, rfl⟩
theorem L53 : Sli Tryz.prog 53 79 5 [.int .i32 0, .string ⟨#[]⟩, .int .i32 0, .pointer none, .map none] := ⟨Tryz.runUnderlying53, Tryz.sizeOf79, ⟨_, Tryz.zeroValue79, rfl⟩, rfl, rfl⟩
theorem L73 : Sli Tryz.prog 73 97 18 [.int .i32 0, .int .i16 0, .int .i64 0, .int .i64 0, .int .i64 0, .int .i32 0, .int .i64 0, .map none, .int .i32 0, .int .i32 0, .map none, .int .i64 0, .int .i32 0, .map none, .slice none 0 0, .int .i32 0, .slice none 0 0, .map none] := ⟨Tryz.runUnderlying73, Tryz.sizeOf97, ⟨_, Tryz.zeroValue97, rfl⟩, rfl, rfl⟩
theorem L95 : Sli Tryz.prog 95 102 3 [.int .i64 0, .int .i64 0, .map none] := ⟨Tryz.runUnderlying95, Tryz.sizeOf102, ⟨_, Tryz.zeroValue102, rfl⟩, rfl, rfl⟩
theorem S26 : Stru Tryz.prog 26 [(0, 1), (1, 1), (2, 1), (3, 1), (4, 1)] [.int .i64 0, .slice none 0 0, .bool false, .slice none 0 0, .slice none 0 0] := ⟨Tryz.zeroValue26, _, Tryz.runUnderlying26, fun w => by kernel_rfl⟩
theorem S31 : Stru Tryz.prog 31 [(0, 1), (1, 1)] [.slice none 0 0, .int .i64 0] := ⟨Tryz.zeroValue31, _, Tryz.runUnderlying31, fun w => by kernel_rfl⟩
theorem S39 : Stru Tryz.prog 39 [(0, 1), (1, 1), (2, 1), (3, 1), (4, 1)] [.int .i64 0, .slice none 0 0, .bool false, .slice none 0 0, .slice none 0 0] := ⟨Tryz.zeroValue39, _, Tryz.runUnderlying39, fun w => by kernel_rfl⟩
theorem S50 : Stru Tryz.prog 50 [(0, 1), (1, 1), (2, 1), (3, 1), (4, 1), (5, 1), (6, 1), (7, 1)] [.int .i64 0, .int .i64 0, .int .i64 0, .int .i64 0, .int .i64 0, .int .i64 0, .int .i64 0, .slice none 0 0] := ⟨Tryz.zeroValue50, _, Tryz.runUnderlying50, fun w => by kernel_rfl⟩
theorem S58 : Stru Tryz.prog 58 [(0, 1), (1, 1), (2, 1), (3, 1), (4, 1), (5, 1), (6, 1)] [.int .i16 0, .int .i32 0, .int .i16 0, .int .i32 0, .slice none 0 0, .slice none 0 0, .map none] := ⟨Tryz.zeroValue58, _, Tryz.runUnderlying58, fun w => by kernel_rfl⟩
theorem S64 : Stru Tryz.prog 64 [(0, 1), (1, 1)] [.int .u32 0, .slice none 0 0] := ⟨Tryz.zeroValue64, _, Tryz.runUnderlying64, fun w => by kernel_rfl⟩
theorem S65 : Stru Tryz.prog 65 [(0, 1), (1, 1)] [.int .u32 0, .slice none 0 0] := ⟨Tryz.zeroValue65, _, Tryz.runUnderlying65, fun w => by kernel_rfl⟩
end Go.Sx

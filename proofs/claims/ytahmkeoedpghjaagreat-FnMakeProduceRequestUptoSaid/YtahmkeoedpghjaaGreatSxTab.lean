import Derived.Test.YtahmkeoedpghjaaGreatProg
import Derived.Test.YtahmkeoedpghjaaGreatSxNum
import Derived.KernelRfl
set_option linter.unusedVariables false
set_option linter.unusedSimpArgs false
namespace Go.Sx
open Go.Proofs
theorem mixed : Tryz.prog.follows .mixedOrders = true := by kernel_rfl
theorem C39_0 : FieldCell Tryz.prog 39 0 0 := FieldCell.mk Tryz.runUnderlying39 rfl Tryz.isAgg2 rfl
theorem C39_1 : FieldCell Tryz.prog 39 1 1 := FieldCell.mk Tryz.runUnderlying39 rfl Tryz.isAgg22 rfl
theorem C39_2 : FieldCell Tryz.prog 39 2 2 := FieldCell.mk Tryz.runUnderlying39 rfl Tryz.isAgg4 rfl
theorem C39_3 : FieldCell Tryz.prog 39 3 3 := FieldCell.mk Tryz.runUnderlying39 rfl Tryz.isAgg36 rfl
theorem F26_0 : FieldOff Tryz.prog 26 0 0 := FieldOff.mk Tryz.runUnderlying26 rfl Tryz.sizeOf2 rfl rfl
theorem F26_1 : FieldOff Tryz.prog 26 1 1 := FieldOff.mk Tryz.runUnderlying26 rfl Tryz.sizeOf22 rfl rfl
theorem F26_2 : FieldOff Tryz.prog 26 2 2 := FieldOff.mk Tryz.runUnderlying26 rfl Tryz.sizeOf4 rfl rfl
theorem F26_3 : FieldOff Tryz.prog 26 3 3 := FieldOff.mk Tryz.runUnderlying26 rfl Tryz.sizeOf23 rfl rfl
theorem F26_4 : FieldOff Tryz.prog 26 4 4 := FieldOff.mk Tryz.runUnderlying26 rfl Tryz.sizeOf24 rfl rfl
theorem F31_0 : FieldOff Tryz.prog 31 0 0 := FieldOff.mk Tryz.runUnderlying31 rfl Tryz.sizeOf29 rfl rfl
theorem F31_1 : FieldOff Tryz.prog 31 1 1 := FieldOff.mk Tryz.runUnderlying31 rfl Tryz.sizeOf3 rfl rfl
theorem F39_1 : FieldOff Tryz.prog 39 1 1 := FieldOff.mk Tryz.runUnderlying39 rfl Tryz.sizeOf22 rfl rfl
theorem F39_2 : FieldOff Tryz.prog 39 2 2 := FieldOff.mk Tryz.runUnderlying39 rfl Tryz.sizeOf4 rfl rfl
theorem F39_3 : FieldOff Tryz.prog 39 3 3 := FieldOff.mk Tryz.runUnderlying39 rfl Tryz.sizeOf36 rfl rfl
theorem F39_4 : FieldOff Tryz.prog 39 4 4 := FieldOff.mk Tryz.runUnderlying39 rfl Tryz.sizeOf37 rfl rfl
theorem F50_0 : FieldOff Tryz.prog 50 0 0 := FieldOff.mk Tryz.runUnderlying50 rfl Tryz.sizeOf3 rfl rfl
theorem F50_1 : FieldOff Tryz.prog 50 1 1 := FieldOff.mk Tryz.runUnderlying50 rfl Tryz.sizeOf3 rfl rfl
theorem F50_2 : FieldOff Tryz.prog 50 2 2 := FieldOff.mk Tryz.runUnderlying50 rfl Tryz.sizeOf3 rfl rfl
theorem F50_3 : FieldOff Tryz.prog 50 3 3 := FieldOff.mk Tryz.runUnderlying50 rfl Tryz.sizeOf3 rfl rfl
theorem F50_4 : FieldOff Tryz.prog 50 4 4 := FieldOff.mk Tryz.runUnderlying50 rfl Tryz.sizeOf3 rfl rfl
theorem F50_5 : FieldOff Tryz.prog 50 5 5 := FieldOff.mk Tryz.runUnderlying50 rfl Tryz.sizeOf2 rfl rfl
theorem F50_6 : FieldOff Tryz.prog 50 6 6 := FieldOff.mk Tryz.runUnderlying50 rfl Tryz.sizeOf3 rfl rfl
theorem F50_7 : FieldOff Tryz.prog 50 7 7 := FieldOff.mk Tryz.runUnderlying50 rfl Tryz.sizeOf29 rfl rfl
theorem F56_0 : FieldOff Tryz.prog 56 0 0 := FieldOff.mk Tryz.runUnderlying56 rfl Tryz.sizeOf54 rfl rfl
theorem F58_0 : FieldOff Tryz.prog 58 0 0 := FieldOff.mk Tryz.runUnderlying58 rfl Tryz.sizeOf45 rfl rfl
theorem F58_1 : FieldOff Tryz.prog 58 1 1 := FieldOff.mk Tryz.runUnderlying58 rfl Tryz.sizeOf52 rfl rfl
theorem F58_2 : FieldOff Tryz.prog 58 2 2 := FieldOff.mk Tryz.runUnderlying58 rfl Tryz.sizeOf45 rfl rfl
theorem F58_3 : FieldOff Tryz.prog 58 3 3 := FieldOff.mk Tryz.runUnderlying58 rfl Tryz.sizeOf21 rfl rfl
theorem F58_4 : FieldOff Tryz.prog 58 4 4 := FieldOff.mk Tryz.runUnderlying58 rfl Tryz.sizeOf53 rfl rfl
theorem F58_5 : FieldOff Tryz.prog 58 5 5 := FieldOff.mk Tryz.runUnderlying58 rfl Tryz.sizeOf56 rfl rfl
theorem F64_0 : FieldOff Tryz.prog 64 0 0 := FieldOff.mk Tryz.runUnderlying64 rfl Tryz.sizeOf62 rfl rfl
theorem F64_1 : FieldOff Tryz.prog 64 1 1 := FieldOff.mk Tryz.runUnderlying64 rfl Tryz.sizeOf22 rfl rfl
theorem F65_0 : FieldOff Tryz.prog 65 0 0 := FieldOff.mk Tryz.runUnderlying65 rfl Tryz.sizeOf62 rfl rfl
theorem F65_1 : FieldOff Tryz.prog 65 1 1 := FieldOff.mk Tryz.runUnderlying65 rfl Tryz.sizeOf22 rfl rfl
theorem F76_0 : FieldOff Tryz.prog 76 0 0 := FieldOff.mk Tryz.runUnderlying76 rfl Tryz.sizeOf9 rfl rfl
theorem F76_1 : FieldOff Tryz.prog 76 1 1 := FieldOff.mk Tryz.runUnderlying76 rfl Tryz.sizeOf73 rfl rfl
theorem F76_2 : FieldOff Tryz.prog 76 2 17 := FieldOff.mk Tryz.runUnderlying76 rfl Tryz.sizeOf74 rfl rfl
theorem F76_3 : FieldOff Tryz.prog 76 3 18 := FieldOff.mk Tryz.runUnderlying76 rfl Tryz.sizeOf56 rfl rfl
theorem F88_0 : FieldOff Tryz.prog 88 0 0 := FieldOff.mk Tryz.runUnderlying88 rfl Tryz.sizeOf21 rfl rfl
theorem F88_1 : FieldOff Tryz.prog 88 1 1 := FieldOff.mk Tryz.runUnderlying88 rfl Tryz.sizeOf22 rfl rfl
theorem F88_2 : FieldOff Tryz.prog 88 2 2 := FieldOff.mk Tryz.runUnderlying88 rfl Tryz.sizeOf56 rfl rfl
theorem I26 : TI Tryz.prog 26 5 88 (.agg #[.int .i64 0, .slice none 0 0, .bool false, .slice none 0 0, .slice none 0 0]) := TI.mk_run Tryz.typeInfo26 rfl rfl rfl (by decide) rfl
theorem I39 : TI Tryz.prog 39 5 88 (.agg #[.int .i64 0, .slice none 0 0, .bool false, .slice none 0 0, .slice none 0 0]) := TI.mk_run Tryz.typeInfo39 rfl rfl rfl (by decide) rfl
theorem I5 : TI Tryz.prog 5 1 1 (.int .u8 0) := TI.mk_run Tryz.typeInfo5 rfl rfl rfl (by decide) rfl
theorem I62 : TI Tryz.prog 62 1 4 (.int .u32 0) := TI.mk_run Tryz.typeInfo62 rfl rfl rfl (by decide) rfl
theorem I64 : TI Tryz.prog 64 2 32 (.agg #[.int .u32 0, .slice none 0 0]) := TI.mk_run Tryz.typeInfo64 rfl rfl rfl (by decide) rfl
theorem I65 : TI Tryz.prog 65 2 32 (.agg #[.int .u32 0, .slice none 0 0]) := TI.mk_run Tryz.typeInfo65 rfl rfl rfl (by decide) rfl
theorem I76 : TI Tryz.prog 76 19 64 (.agg #[.string ⟨#[]⟩, .int .u8 0, .int .u8 0, .int .u8 0, .int .u8 0, .int .u8 0, .int .u8 0, .int .u8 0, .int .u8 0, .int .u8 0, .int .u8 0, .int .u8 0, .int .u8 0, .int .u8 0, .int .u8 0, .int .u8 0, .int .u8 0, .slice none 0 0, .map none]) := TI.mk_run Tryz.typeInfo76 rfl rfl rfl (by decide) rfl
theorem I88 : TI Tryz.prog 88 3 40 (.agg #[.int .i32 0, .slice none 0 0, .map none]) := TI.mk_run Tryz.typeInfo88 rfl rfl rfl (by decide) rfl
theorem L112 : Sli Tryz.prog 112 62 1 [.int .u32 0] := ⟨Tryz.runUnderlying112, Tryz.sizeOf62, ⟨_, Tryz.zeroValue62, rfl⟩, rfl, rfl⟩
theorem L22 : Sli Tryz.prog 22 5 1 [.int .u8 0] := ⟨Tryz.runUnderlying22, Tryz.sizeOf5, ⟨_, Tryz.zeroValue5, rfl⟩, rfl, rfl⟩
theorem L23 : Sli Tryz.prog 23 26 5 [.int .i64 0, .slice none 0 0, .bool false, .slice none 0 0, .slice none 0 0] := ⟨Tryz.runUnderlying23, Tryz.sizeOf26, ⟨_, Tryz.zeroValue26, rfl⟩, rfl, rfl⟩
theorem L24 : Sli Tryz.prog 24 64 2 [.int .u32 0, .slice none 0 0] := ⟨Tryz.runUnderlying24, Tryz.sizeOf64, ⟨_, Tryz.zeroValue64, rfl⟩, rfl, rfl⟩
theorem L29 : Sli Tryz.prog 29 50 8 [.int .i64 0, .int .i64 0, .int .i64 0, .int .i64 0, .int .i64 0, .int .i64 0, .int .i64 0, .slice none 0 0] := ⟨Tryz.runUnderlying29, Tryz.sizeOf50, ⟨_, Tryz.zeroValue50, rfl⟩, rfl, rfl⟩
theorem L36 : Sli Tryz.prog 36 39 5 [.int .i64 0, .slice none 0 0, .bool false, .slice none 0 0, .slice none 0 0] := ⟨Tryz.runUnderlying36, Tryz.sizeOf39, ⟨_, Tryz.zeroValue39, rfl⟩, rfl, rfl⟩
theorem L37 : Sli Tryz.prog 37 65 2 [.int .u32 0, .slice none 0 0] := ⟨Tryz.runUnderlying37, Tryz.sizeOf65, ⟨_, Tryz.zeroValue65, rfl⟩, rfl, rfl⟩
theorem L53 : Sli Tryz.prog 53 76 19 [.string ⟨#[]⟩, .int .u8 0, .int .u8 0, .int .u8 0, .int .u8 0, .int .u8 0, .int .u8 0, .int .u8 0, .int .u8 0, .int .u8 0, .int .u8 0, .int .u8 0, .int .u8 0, .int .u8 0, .int .u8 0, .int .u8 0, .int .u8 0, .slice none 0 0, .map none] := ⟨Tryz.runUnderlying53, Tryz.sizeOf76, ⟨_, Tryz.zeroValue76, rfl⟩, rfl, rfl⟩
theorem L74 : Sli Tryz.prog 74 88 3 [.int .i32 0, .slice none 0 0, .map none] := ⟨Tryz.runUnderlying74, Tryz.sizeOf88, ⟨_, Tryz.zeroValue88, rfl⟩, rfl, rfl⟩
theorem S26 : Stru Tryz.prog 26 [(0, 1), (1, 1), (2, 1), (3, 1), (4, 1)] [.int .i64 0, .slice none 0 0, .bool false, .slice none 0 0, .slice none 0 0] := ⟨Tryz.zeroValue26, _, Tryz.runUnderlying26, fun w => by kernel_rfl⟩
theorem S31 : Stru Tryz.prog 31 [(0, 1), (1, 1)] [.slice none 0 0, .int .i64 0] := ⟨Tryz.zeroValue31, _, Tryz.runUnderlying31, fun w => by kernel_rfl⟩
theorem S39 : Stru Tryz.prog 39 [(0, 1), (1, 1), (2, 1), (3, 1), (4, 1)] [.int .i64 0, .slice none 0 0, .bool false, .slice none 0 0, .slice none 0 0] := ⟨Tryz.zeroValue39, _, Tryz.runUnderlying39, fun w => by kernel_rfl⟩
theorem S50 : Stru Tryz.prog 50 [(0, 1), (1, 1), (2, 1), (3, 1), (4, 1), (5, 1), (6, 1), (7, 1)] [.int .i64 0, .int .i64 0, .int .i64 0, .int .i64 0, .int .i64 0, .int .i64 0, .int .i64 0, .slice none 0 0] := ⟨Tryz.zeroValue50, _, Tryz.runUnderlying50, fun w => by kernel_rfl⟩
theorem S58 : Stru Tryz.prog 58 [(0, 1), (1, 1), (2, 1), (3, 1), (4, 1), (5, 1)] [.int .i16 0, .pointer none, .int .i16 0, .int .i32 0, .slice none 0 0, .map none] := ⟨Tryz.zeroValue58, _, Tryz.runUnderlying58, fun w => by kernel_rfl⟩
theorem S64 : Stru Tryz.prog 64 [(0, 1), (1, 1)] [.int .u32 0, .slice none 0 0] := ⟨Tryz.zeroValue64, _, Tryz.runUnderlying64, fun w => by kernel_rfl⟩
theorem S65 : Stru Tryz.prog 65 [(0, 1), (1, 1)] [.int .u32 0, .slice none 0 0] := ⟨Tryz.zeroValue65, _, Tryz.runUnderlying65, fun w => by kernel_rfl⟩
end Go.Sx

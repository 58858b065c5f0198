import Derived.Test.YtbmkefmfhmbenaaProg
import Derived.Test.YtbmkefmfhmbenaaSxNum
import Derived.KernelRfl
set_option linter.unusedVariables false
set_option linter.unusedSimpArgs false
namespace Go.Sx
open Go.Proofs
theorem mixed : Try.prog.follows .mixedOrders = true := by kernel_rfl
theorem C39_0 : FieldCell Try.prog 39 0 0 := FieldCell.mk Try.runUnderlying39 rfl Try.isAgg2 rfl
theorem C39_1 : FieldCell Try.prog 39 1 1 := FieldCell.mk Try.runUnderlying39 rfl Try.isAgg22 rfl
theorem C39_2 : FieldCell Try.prog 39 2 2 := FieldCell.mk Try.runUnderlying39 rfl Try.isAgg4 rfl
theorem C39_3 : FieldCell Try.prog 39 3 3 := FieldCell.mk Try.runUnderlying39 rfl Try.isAgg36 rfl
theorem F103_0 : FieldOff Try.prog 103 0 0 := FieldOff.mk Try.runUnderlying103 rfl Try.sizeOf21 rfl rfl
theorem F116_0 : FieldOff Try.prog 116 0 0 := FieldOff.mk Try.runUnderlying116 rfl Try.sizeOf9 rfl rfl
theorem F116_1 : FieldOff Try.prog 116 1 1 := FieldOff.mk Try.runUnderlying116 rfl Try.sizeOf114 rfl rfl
theorem F26_0 : FieldOff Try.prog 26 0 0 := FieldOff.mk Try.runUnderlying26 rfl Try.sizeOf2 rfl rfl
theorem F26_1 : FieldOff Try.prog 26 1 1 := FieldOff.mk Try.runUnderlying26 rfl Try.sizeOf22 rfl rfl
theorem F26_2 : FieldOff Try.prog 26 2 2 := FieldOff.mk Try.runUnderlying26 rfl Try.sizeOf4 rfl rfl
theorem F26_3 : FieldOff Try.prog 26 3 3 := FieldOff.mk Try.runUnderlying26 rfl Try.sizeOf23 rfl rfl
theorem F26_4 : FieldOff Try.prog 26 4 4 := FieldOff.mk Try.runUnderlying26 rfl Try.sizeOf24 rfl rfl
theorem F31_0 : FieldOff Try.prog 31 0 0 := FieldOff.mk Try.runUnderlying31 rfl Try.sizeOf29 rfl rfl
theorem F31_1 : FieldOff Try.prog 31 1 1 := FieldOff.mk Try.runUnderlying31 rfl Try.sizeOf3 rfl rfl
theorem F39_0 : FieldOff Try.prog 39 0 0 := FieldOff.mk Try.runUnderlying39 rfl Try.sizeOf2 rfl rfl
theorem F39_1 : FieldOff Try.prog 39 1 1 := FieldOff.mk Try.runUnderlying39 rfl Try.sizeOf22 rfl rfl
theorem F39_2 : FieldOff Try.prog 39 2 2 := FieldOff.mk Try.runUnderlying39 rfl Try.sizeOf4 rfl rfl
theorem F39_3 : FieldOff Try.prog 39 3 3 := FieldOff.mk Try.runUnderlying39 rfl Try.sizeOf36 rfl rfl
theorem F39_4 : FieldOff Try.prog 39 4 4 := FieldOff.mk Try.runUnderlying39 rfl Try.sizeOf37 rfl rfl
theorem F50_0 : FieldOff Try.prog 50 0 0 := FieldOff.mk Try.runUnderlying50 rfl Try.sizeOf3 rfl rfl
theorem F50_1 : FieldOff Try.prog 50 1 1 := FieldOff.mk Try.runUnderlying50 rfl Try.sizeOf3 rfl rfl
theorem F50_2 : FieldOff Try.prog 50 2 2 := FieldOff.mk Try.runUnderlying50 rfl Try.sizeOf3 rfl rfl
theorem F50_3 : FieldOff Try.prog 50 3 3 := FieldOff.mk Try.runUnderlying50 rfl Try.sizeOf3 rfl rfl
theorem F50_4 : FieldOff Try.prog 50 4 4 := FieldOff.mk Try.runUnderlying50 rfl Try.sizeOf3 rfl rfl
theorem F50_5 : FieldOff Try.prog 50 5 5 := FieldOff.mk Try.runUnderlying50 rfl Try.sizeOf2 rfl rfl
theorem F50_6 : FieldOff Try.prog 50 6 6 := FieldOff.mk Try.runUnderlying50 rfl Try.sizeOf3 rfl rfl
theorem F50_7 : FieldOff Try.prog 50 7 7 := FieldOff.mk Try.runUnderlying50 rfl Try.sizeOf29 rfl rfl
theorem F54_0 : FieldOff Try.prog 54 0 0 := FieldOff.mk Try.runUnderlying54 rfl Try.sizeOf45 rfl rfl
theorem F54_1 : FieldOff Try.prog 54 1 1 := FieldOff.mk Try.runUnderlying54 rfl Try.sizeOf9 rfl rfl
theorem F54_2 : FieldOff Try.prog 54 2 2 := FieldOff.mk Try.runUnderlying54 rfl Try.sizeOf52 rfl rfl
theorem F60_0 : FieldOff Try.prog 60 0 0 := FieldOff.mk Try.runUnderlying60 rfl Try.sizeOf58 rfl rfl
theorem F60_1 : FieldOff Try.prog 60 1 1 := FieldOff.mk Try.runUnderlying60 rfl Try.sizeOf22 rfl rfl
theorem F61_0 : FieldOff Try.prog 61 0 0 := FieldOff.mk Try.runUnderlying61 rfl Try.sizeOf58 rfl rfl
theorem F61_1 : FieldOff Try.prog 61 1 1 := FieldOff.mk Try.runUnderlying61 rfl Try.sizeOf22 rfl rfl
theorem F71_0 : FieldOff Try.prog 71 0 0 := FieldOff.mk Try.runUnderlying71 rfl Try.sizeOf45 rfl rfl
theorem F71_1 : FieldOff Try.prog 71 1 1 := FieldOff.mk Try.runUnderlying71 rfl Try.sizeOf67 rfl rfl
theorem F71_2 : FieldOff Try.prog 71 2 2 := FieldOff.mk Try.runUnderlying71 rfl Try.sizeOf22 rfl rfl
theorem F71_3 : FieldOff Try.prog 71 3 3 := FieldOff.mk Try.runUnderlying71 rfl Try.sizeOf68 rfl rfl
theorem F71_4 : FieldOff Try.prog 71 4 4 := FieldOff.mk Try.runUnderlying71 rfl Try.sizeOf21 rfl rfl
theorem F71_5 : FieldOff Try.prog 71 5 5 := FieldOff.mk Try.runUnderlying71 rfl Try.sizeOf69 rfl rfl
theorem F78_0 : FieldOff Try.prog 78 0 0 := FieldOff.mk Try.runUnderlying78 rfl Try.sizeOf76 rfl rfl
theorem F80_0 : FieldOff Try.prog 80 0 0 := FieldOff.mk Try.runUnderlying80 rfl Try.sizeOf45 rfl rfl
theorem F80_1 : FieldOff Try.prog 80 1 1 := FieldOff.mk Try.runUnderlying80 rfl Try.sizeOf21 rfl rfl
theorem F80_2 : FieldOff Try.prog 80 2 2 := FieldOff.mk Try.runUnderlying80 rfl Try.sizeOf78 rfl rfl
theorem F85_0 : FieldOff Try.prog 85 0 0 := FieldOff.mk Try.runUnderlying85 rfl Try.sizeOf45 rfl rfl
theorem F85_1 : FieldOff Try.prog 85 1 1 := FieldOff.mk Try.runUnderlying85 rfl Try.sizeOf21 rfl rfl
theorem F85_2 : FieldOff Try.prog 85 2 2 := FieldOff.mk Try.runUnderlying85 rfl Try.sizeOf45 rfl rfl
theorem F85_3 : FieldOff Try.prog 85 3 3 := FieldOff.mk Try.runUnderlying85 rfl Try.sizeOf2 rfl rfl
theorem F85_4 : FieldOff Try.prog 85 4 4 := FieldOff.mk Try.runUnderlying85 rfl Try.sizeOf45 rfl rfl
theorem F85_5 : FieldOff Try.prog 85 5 5 := FieldOff.mk Try.runUnderlying85 rfl Try.sizeOf78 rfl rfl
theorem F90_0 : FieldOff Try.prog 90 0 0 := FieldOff.mk Try.runUnderlying90 rfl Try.sizeOf45 rfl rfl
theorem F90_1 : FieldOff Try.prog 90 1 1 := FieldOff.mk Try.runUnderlying90 rfl Try.sizeOf21 rfl rfl
theorem F90_2 : FieldOff Try.prog 90 2 2 := FieldOff.mk Try.runUnderlying90 rfl Try.sizeOf45 rfl rfl
theorem F90_3 : FieldOff Try.prog 90 3 3 := FieldOff.mk Try.runUnderlying90 rfl Try.sizeOf4 rfl rfl
theorem F90_4 : FieldOff Try.prog 90 4 4 := FieldOff.mk Try.runUnderlying90 rfl Try.sizeOf4 rfl rfl
theorem F90_5 : FieldOff Try.prog 90 5 5 := FieldOff.mk Try.runUnderlying90 rfl Try.sizeOf4 rfl rfl
theorem F90_6 : FieldOff Try.prog 90 6 6 := FieldOff.mk Try.runUnderlying90 rfl Try.sizeOf78 rfl rfl
theorem F96_0 : FieldOff Try.prog 96 0 0 := FieldOff.mk Try.runUnderlying96 rfl Try.sizeOf9 rfl rfl
theorem F96_1 : FieldOff Try.prog 96 1 1 := FieldOff.mk Try.runUnderlying96 rfl Try.sizeOf94 rfl rfl
theorem I103 : TI Try.prog 103 1 4 (.agg #[.int .i32 0]) := TI.mk_run Try.typeInfo103 rfl rfl rfl (by decide) rfl
theorem I116 : TI Try.prog 116 2 40 (.agg #[.string ⟨#[]⟩, .slice none 0 0]) := TI.mk_run Try.typeInfo116 rfl rfl rfl (by decide) rfl
theorem I21 : TI Try.prog 21 1 4 (.int .i32 0) := TI.mk_run Try.typeInfo21 rfl rfl rfl (by decide) rfl
theorem I26 : TI Try.prog 26 5 88 (.agg #[.int .i64 0, .slice none 0 0, .bool false, .slice none 0 0, .slice none 0 0]) := TI.mk_run Try.typeInfo26 rfl rfl rfl (by decide) rfl
theorem I39 : TI Try.prog 39 5 88 (.agg #[.int .i64 0, .slice none 0 0, .bool false, .slice none 0 0, .slice none 0 0]) := TI.mk_run Try.typeInfo39 rfl rfl rfl (by decide) rfl
theorem I5 : TI Try.prog 5 1 1 (.int .u8 0) := TI.mk_run Try.typeInfo5 rfl rfl rfl (by decide) rfl
theorem I58 : TI Try.prog 58 1 4 (.int .u32 0) := TI.mk_run Try.typeInfo58 rfl rfl rfl (by decide) rfl
theorem I60 : TI Try.prog 60 2 32 (.agg #[.int .u32 0, .slice none 0 0]) := TI.mk_run Try.typeInfo60 rfl rfl rfl (by decide) rfl
theorem I61 : TI Try.prog 61 2 32 (.agg #[.int .u32 0, .slice none 0 0]) := TI.mk_run Try.typeInfo61 rfl rfl rfl (by decide) rfl
theorem I9 : TI Try.prog 9 1 16 (.string ⟨#[]⟩) := TI.mk_run Try.typeInfo9 rfl rfl rfl (by decide) rfl
theorem I96 : TI Try.prog 96 2 40 (.agg #[.string ⟨#[]⟩, .slice none 0 0]) := TI.mk_run Try.typeInfo96 rfl rfl rfl (by decide) rfl
theorem L114 : Sli Try.prog 114 21 1 [.int .i32 0] := ⟨Try.runUnderlying114, Try.sizeOf21, ⟨_, Try.zeroValue21, rfl⟩, rfl, rfl⟩
theorem L138 : Sli Try.prog 138 58 1 [.int .u32 0] := ⟨Try.runUnderlying138, Try.sizeOf58, ⟨_, Try.zeroValue58, rfl⟩, rfl, rfl⟩
theorem L22 : Sli Try.prog 22 5 1 [.int .u8 0] := ⟨Try.runUnderlying22, Try.sizeOf5, ⟨_, Try.zeroValue5, rfl⟩, rfl, rfl⟩
theorem L23 : Sli Try.prog 23 26 5 [.int .i64 0, .slice none 0 0, .bool false, .slice none 0 0, .slice none 0 0] := ⟨Try.runUnderlying23, Try.sizeOf26, ⟨_, Try.zeroValue26, rfl⟩, rfl, rfl⟩
theorem L24 : Sli Try.prog 24 60 2 [.int .u32 0, .slice none 0 0] := ⟨Try.runUnderlying24, Try.sizeOf60, ⟨_, Try.zeroValue60, rfl⟩, rfl, rfl⟩
theorem L29 : Sli Try.prog 29 50 8 [.int .i64 0, .int .i64 0, .int .i64 0, .int .i64 0, .int .i64 0, .int .i64 0, .int .i64 0, .slice none 0 0] := ⟨Try.runUnderlying29, Try.sizeOf50, ⟨_, Try.zeroValue50, rfl⟩, rfl, rfl⟩
theorem L36 : Sli Try.prog 36 39 5 [.int .i64 0, .slice none 0 0, .bool false, .slice none 0 0, .slice none 0 0] := ⟨Try.runUnderlying36, Try.sizeOf39, ⟨_, Try.zeroValue39, rfl⟩, rfl, rfl⟩
theorem L37 : Sli Try.prog 37 61 2 [.int .u32 0, .slice none 0 0] := ⟨Try.runUnderlying37, Try.sizeOf61, ⟨_, Try.zeroValue61, rfl⟩, rfl, rfl⟩
theorem L52 : Sli Try.prog 52 96 2 [.string ⟨#[]⟩, .slice none 0 0] := ⟨Try.runUnderlying52, Try.sizeOf96, ⟨_, Try.zeroValue96, rfl⟩, rfl, rfl⟩
theorem L67 : Sli Try.prog 67 9 1 [.string ⟨#[]⟩] := ⟨Try.runUnderlying67, Try.sizeOf9, ⟨_, Try.zeroValue9, rfl⟩, rfl, rfl⟩
theorem L68 : Sli Try.prog 68 116 2 [.string ⟨#[]⟩, .slice none 0 0] := ⟨Try.runUnderlying68, Try.sizeOf116, ⟨_, Try.zeroValue116, rfl⟩, rfl, rfl⟩
theorem L94 : Sli Try.prog 94 103 1 [.int .i32 0] := ⟨Try.runUnderlying94, Try.sizeOf103, ⟨_, Try.zeroValue103, rfl⟩, rfl, rfl⟩
theorem S26 : Stru Try.prog 26 [(0, 1), (1, 1), (2, 1), (3, 1), (4, 1)] [.int .i64 0, .slice none 0 0, .bool false, .slice none 0 0, .slice none 0 0] := ⟨Try.zeroValue26, _, Try.runUnderlying26, fun w => by kernel_rfl⟩
theorem S31 : Stru Try.prog 31 [(0, 1), (1, 1)] [.slice none 0 0, .int .i64 0] := ⟨Try.zeroValue31, _, Try.runUnderlying31, fun w => by kernel_rfl⟩
theorem S39 : Stru Try.prog 39 [(0, 1), (1, 1), (2, 1), (3, 1), (4, 1)] [.int .i64 0, .slice none 0 0, .bool false, .slice none 0 0, .slice none 0 0] := ⟨Try.zeroValue39, _, Try.runUnderlying39, fun w => by kernel_rfl⟩
theorem S50 : Stru Try.prog 50 [(0, 1), (1, 1), (2, 1), (3, 1), (4, 1), (5, 1), (6, 1), (7, 1)] [.int .i64 0, .int .i64 0, .int .i64 0, .int .i64 0, .int .i64 0, .int .i64 0, .int .i64 0, .slice none 0 0] := ⟨Try.zeroValue50, _, Try.runUnderlying50, fun w => by kernel_rfl⟩
theorem S54 : Stru Try.prog 54 [(0, 1), (1, 1), (2, 1)] [.int .i16 0, .string ⟨#[]⟩, .slice none 0 0] := ⟨Try.zeroValue54, _, Try.runUnderlying54, fun w => by kernel_rfl⟩
theorem S60 : Stru Try.prog 60 [(0, 1), (1, 1)] [.int .u32 0, .slice none 0 0] := ⟨Try.zeroValue60, _, Try.runUnderlying60, fun w => by kernel_rfl⟩
theorem S61 : Stru Try.prog 61 [(0, 1), (1, 1)] [.int .u32 0, .slice none 0 0] := ⟨Try.zeroValue61, _, Try.runUnderlying61, fun w => by kernel_rfl⟩
theorem S71 : Stru Try.prog 71 [(0, 1), (1, 1), (2, 1), (3, 1), (4, 1), (5, 1)] [.int .i16 0, .slice none 0 0, .slice none 0 0, .slice none 0 0, .int .i32 0, .pointer none] := ⟨Try.zeroValue71, _, Try.runUnderlying71, fun w => by kernel_rfl⟩
theorem S80 : Stru Try.prog 80 [(0, 1), (1, 1), (2, 1)] [.int .i16 0, .int .i32 0, .map none] := ⟨Try.zeroValue80, _, Try.runUnderlying80, fun w => by kernel_rfl⟩
theorem S85 : Stru Try.prog 85 [(0, 1), (1, 1), (2, 1), (3, 1), (4, 1), (5, 1)] [.int .i16 0, .int .i32 0, .int .i16 0, .int .i64 0, .int .i16 0, .map none] := ⟨Try.zeroValue85, _, Try.runUnderlying85, fun w => by kernel_rfl⟩
theorem S90 : Stru Try.prog 90 [(0, 1), (1, 1), (2, 1), (3, 1), (4, 1), (5, 1), (6, 1)] [.int .i16 0, .int .i32 0, .int .i16 0, .bool false, .bool false, .bool false, .map none] := ⟨Try.zeroValue90, _, Try.runUnderlying90, fun w => by kernel_rfl⟩
end Go.Sx

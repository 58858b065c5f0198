import Derived.Test.YtbmkefmfhmbenaaSxTab
import Derived.KernelRfl
set_option linter.unusedVariables false
set_option linter.unusedSimpArgs false
namespace Go.Sx
open Go.Proofs
theorem C39_0 : FieldCell Try.prog 39 0 0 := FieldCell.mk Try.runUnderlying39 rfl Try.isAgg2 rfl
theorem C39_1 : FieldCell Try.prog 39 1 1 := FieldCell.mk Try.runUnderlying39 rfl Try.isAgg22 rfl
theorem C39_2 : FieldCell Try.prog 39 2 2 := FieldCell.mk Try.runUnderlying39 rfl Try.isAgg4 rfl
theorem C39_3 : FieldCell Try.prog 39 3 3 := FieldCell.mk Try.runUnderlying39 rfl Try.isAgg36 rfl
theorem F103_0 : FieldOff Try.prog 103 0 0 := FieldOff.mk Try.runUnderlying103 rfl Try.sizeOf21 rfl rfl
theorem F54_0 : FieldOff Try.prog 54 0 0 := FieldOff.mk Try.runUnderlying54 rfl Try.sizeOf45 rfl rfl
theorem F54_1 : FieldOff Try.prog 54 1 1 := FieldOff.mk Try.runUnderlying54 rfl Try.sizeOf9 rfl rfl
theorem F54_2 : FieldOff Try.prog 54 2 2 := FieldOff.mk Try.runUnderlying54 rfl Try.sizeOf52 rfl rfl
theorem F96_0 : FieldOff Try.prog 96 0 0 := FieldOff.mk Try.runUnderlying96 rfl Try.sizeOf9 rfl rfl
theorem F96_1 : FieldOff Try.prog 96 1 1 := FieldOff.mk Try.runUnderlying96 rfl Try.sizeOf94 rfl rfl
theorem I103 : TI Try.prog 103 1 4 (.agg #[.int .i32 0]) := TI.mk_run Try.typeInfo103 rfl rfl rfl (by decide) rfl
theorem I96 : TI Try.prog 96 2 40 (.agg #[.string ⟨#[]⟩, .slice none 0 0]) := TI.mk_run Try.typeInfo96 rfl rfl rfl (by decide) rfl
theorem L29 : Sli Try.prog 29 50 8 [.int .i64 0, .int .i64 0, .int .i64 0, .int .i64 0, .int .i64 0, .int .i64 0, .int .i64 0, .slice none 0 0] := ⟨Try.runUnderlying29, Try.sizeOf50, ⟨_, Try.zeroValue50, rfl⟩, rfl, rfl⟩
theorem L52 : Sli Try.prog 52 96 2 [.string ⟨#[]⟩, .slice none 0 0] := ⟨Try.runUnderlying52, Try.sizeOf96, ⟨_, Try.zeroValue96, rfl⟩, rfl, rfl⟩
theorem L94 : Sli Try.prog 94 103 1 [.int .i32 0] := ⟨Try.runUnderlying94, Try.sizeOf103, ⟨_, Try.zeroValue103, rfl⟩, rfl, rfl⟩
theorem S31 : Stru Try.prog 31 [(0, 1), (1, 1)] [.slice none 0 0, .int .i64 0] := ⟨Try.zeroValue31, _, Try.runUnderlying31, fun w => by kernel_rfl⟩
theorem S50 : Stru Try.prog 50 [(0, 1), (1, 1), (2, 1), (3, 1), (4, 1), (5, 1), (6, 1), (7, 1)] [.int .i64 0, .int .i64 0, .int .i64 0, .int .i64 0, .int .i64 0, .int .i64 0, .int .i64 0, .slice none 0 0] := ⟨Try.zeroValue50, _, Try.runUnderlying50, fun w => by kernel_rfl⟩
theorem S54 : Stru Try.prog 54 [(0, 1), (1, 1), (2, 1)] [.int .i16 0, .string ⟨#[]⟩, .slice none 0 0] := ⟨Try.zeroValue54, _, Try.runUnderlying54, fun w => by kernel_rfl⟩
end Go.Sx

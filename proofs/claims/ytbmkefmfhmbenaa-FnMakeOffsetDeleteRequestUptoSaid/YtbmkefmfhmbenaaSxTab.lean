import Derived.Test.YtbmkefmfhmbenaaProg
import Derived.Test.YtbmkefmfhmbenaaSxNum
import Derived.KernelRfl
set_option linter.unusedVariables false
set_option linter.unusedSimpArgs false
namespace Go.Sx
open Go.Proofs
theorem mixed : Try.prog.follows .mixedOrders = true := by kernel_rfl
theorem F26_0 : FieldOff Try.prog 26 0 0 := FieldOff.mk Try.runUnderlying26 rfl Try.sizeOf2 rfl rfl
theorem F26_1 : FieldOff Try.prog 26 1 1 := FieldOff.mk Try.runUnderlying26 rfl Try.sizeOf22 rfl rfl
theorem F26_2 : FieldOff Try.prog 26 2 2 := FieldOff.mk Try.runUnderlying26 rfl Try.sizeOf4 rfl rfl
theorem F26_3 : FieldOff Try.prog 26 3 3 := FieldOff.mk Try.runUnderlying26 rfl Try.sizeOf23 rfl rfl
theorem F26_4 : FieldOff Try.prog 26 4 4 := FieldOff.mk Try.runUnderlying26 rfl Try.sizeOf24 rfl rfl
theorem F31_0 : FieldOff Try.prog 31 0 0 := FieldOff.mk Try.runUnderlying31 rfl Try.sizeOf29 rfl rfl
theorem F31_1 : FieldOff Try.prog 31 1 1 := FieldOff.mk Try.runUnderlying31 rfl Try.sizeOf3 rfl rfl
theorem F39_3 : FieldOff Try.prog 39 3 3 := FieldOff.mk Try.runUnderlying39 rfl Try.sizeOf36 rfl rfl
theorem F39_4 : FieldOff Try.prog 39 4 4 := FieldOff.mk Try.runUnderlying39 rfl Try.sizeOf37 rfl rfl
theorem F50_0 : FieldOff Try.prog 50 0 0 := FieldOff.mk Try.runUnderlying50 rfl Try.sizeOf3 rfl rfl
theorem F50_1 : FieldOff Try.prog 50 1 1 := FieldOff.mk Try.runUnderlying50 rfl Try.sizeOf3 rfl rfl
theorem F50_2 : FieldOff Try.prog 50 2 2 := FieldOff.mk Try.runUnderlying50 rfl Try.sizeOf3 rfl rfl
theorem F50_3 : FieldOff Try.prog 50 3 3 := FieldOff.mk Try.runUnderlying50 rfl Try.sizeOf3 rfl rfl
theorem F50_4 : FieldOff Try.prog 50 4 4 := FieldOff.mk Try.runUnderlying50 rfl Try.sizeOf3 rfl rfl
theorem F50_5 : FieldOff Try.prog 50 5 5 := FieldOff.mk Try.runUnderlying50 rfl Try.sizeOf2 rfl rfl
theorem F50_6 : FieldOff Try.prog 50 6 6 := FieldOff.mk Try.runUnderlying50 rfl Try.sizeOf3 rfl rfl
theorem F50_7 : FieldOff Try.prog 50 7 7 := FieldOff.mk Try.runUnderlying50 rfl Try.sizeOf29 rfl rfl
theorem F60_0 : FieldOff Try.prog 60 0 0 := FieldOff.mk Try.runUnderlying60 rfl Try.sizeOf58 rfl rfl
theorem F60_1 : FieldOff Try.prog 60 1 1 := FieldOff.mk Try.runUnderlying60 rfl Try.sizeOf22 rfl rfl
theorem I26 : TI Try.prog 26 5 88 (.agg #[.int .i64 0, .slice none 0 0, .bool false, .slice none 0 0, .slice none 0 0]) := TI.mk_run Try.typeInfo26 rfl rfl rfl (by decide) rfl
theorem I39 : TI Try.prog 39 5 88 (.agg #[.int .i64 0, .slice none 0 0, .bool false, .slice none 0 0, .slice none 0 0]) := TI.mk_run Try.typeInfo39 rfl rfl rfl (by decide) rfl
theorem I5 : TI Try.prog 5 1 1 (.int .u8 0) := TI.mk_run Try.typeInfo5 rfl rfl rfl (by decide) rfl
theorem I60 : TI Try.prog 60 2 32 (.agg #[.int .u32 0, .slice none 0 0]) := TI.mk_run Try.typeInfo60 rfl rfl rfl (by decide) rfl
theorem I61 : TI Try.prog 61 2 32 (.agg #[.int .u32 0, .slice none 0 0]) := TI.mk_run Try.typeInfo61 rfl rfl rfl (by decide) rfl
theorem L22 : Sli Try.prog 22 5 1 [.int .u8 0] := ⟨Try.runUnderlying22, Try.sizeOf5, ⟨_, Try.zeroValue5, rfl⟩, rfl, rfl⟩
theorem L23 : Sli Try.prog 23 26 5 [.int .i64 0, .slice none 0 0, .bool false, .slice none 0 0, .slice none 0 0] := ⟨Try.runUnderlying23, Try.sizeOf26, ⟨_, Try.zeroValue26, rfl⟩, rfl, rfl⟩
theorem L24 : Sli Try.prog 24 60 2 [.int .u32 0, .slice none 0 0] := ⟨Try.runUnderlying24, Try.sizeOf60, ⟨_, Try.zeroValue60, rfl⟩, rfl, rfl⟩
theorem L36 : Sli Try.prog 36 39 5 [.int .i64 0, .slice none 0 0, .bool false, .slice none 0 0, .slice none 0 0] := ⟨Try.runUnderlying36, Try.sizeOf39, ⟨_, Try.zeroValue39, rfl⟩, rfl, rfl⟩
theorem L37 : Sli Try.prog 37 61 2 [.int .u32 0, .slice none 0 0] := ⟨Try.runUnderlying37, Try.sizeOf61, ⟨_, Try.zeroValue61, rfl⟩, rfl, rfl⟩
theorem S26 : Stru Try.prog 26 [(0, 1), (1, 1), (2, 1), (3, 1), (4, 1)] [.int .i64 0, .slice none 0 0, .bool false, .slice none 0 0, .slice none 0 0] := ⟨Try.zeroValue26, _, Try.runUnderlying26, fun w => by kernel_rfl⟩
theorem S39 : Stru Try.prog 39 [(0, 1), (1, 1), (2, 1), (3, 1), (4, 1)] [.int .i64 0, .slice none 0 0, .bool false, .slice none 0 0, .slice none 0 0] := ⟨Try.zeroValue39, _, Try.runUnderlying39, fun w => by kernel_rfl⟩
theorem S60 : Stru Try.prog 60 [(0, 1), (1, 1)] [.int .u32 0, .slice none 0 0] := ⟨Try.zeroValue60, _, Try.runUnderlying60, fun w => by kernel_rfl⟩
theorem S61 : Stru Try.prog 61 [(0, 1), (1, 1)] [.int .u32 0, .slice none 0 0] := ⟨Try.zeroValue61, _, Try.runUnderlying61, fun w => by kernel_rfl⟩
end Go.Sx

import Derived.Test.YtdacadmfdhjpoaaDoorProg
import Derived.Test.YtdacadmfdhjpoaaDoorLibA
import Derived.KernelRfl
set_option linter.unusedVariables false
set_option linter.unusedSimpArgs false
namespace Go.Sx
open Go.Proofs
theorem mixed : Tryd.prog.follows .mixedOrders = true := by kernel_rfl
theorem F27_0 : FieldOff Tryd.prog 27 0 0 := FieldOff.mk Tryd.runUnderlying27 rfl Tryd.sizeOf2 rfl rfl
theorem F27_1 : FieldOff Tryd.prog 27 1 1 := FieldOff.mk Tryd.runUnderlying27 rfl Tryd.sizeOf22 rfl rfl
theorem F27_2 : FieldOff Tryd.prog 27 2 2 := FieldOff.mk Tryd.runUnderlying27 rfl Tryd.sizeOf4 rfl rfl
theorem F27_3 : FieldOff Tryd.prog 27 3 3 := FieldOff.mk Tryd.runUnderlying27 rfl Tryd.sizeOf24 rfl rfl
theorem F27_4 : FieldOff Tryd.prog 27 4 4 := FieldOff.mk Tryd.runUnderlying27 rfl Tryd.sizeOf25 rfl rfl
theorem F35_0 : FieldOff Tryd.prog 35 0 0 := FieldOff.mk Tryd.runUnderlying35 rfl Tryd.sizeOf2 rfl rfl
theorem F35_1 : FieldOff Tryd.prog 35 1 1 := FieldOff.mk Tryd.runUnderlying35 rfl Tryd.sizeOf22 rfl rfl
theorem F35_2 : FieldOff Tryd.prog 35 2 2 := FieldOff.mk Tryd.runUnderlying35 rfl Tryd.sizeOf4 rfl rfl
theorem F35_3 : FieldOff Tryd.prog 35 3 3 := FieldOff.mk Tryd.runUnderlying35 rfl Tryd.sizeOf32 rfl rfl
theorem F35_4 : FieldOff Tryd.prog 35 4 4 := FieldOff.mk Tryd.runUnderlying35 rfl Tryd.sizeOf33 rfl rfl
theorem F50_0 : FieldOff Tryd.prog 50 0 0 := FieldOff.mk Tryd.runUnderlying50 rfl Tryd.sizeOf48 rfl rfl
theorem F50_1 : FieldOff Tryd.prog 50 1 1 := FieldOff.mk Tryd.runUnderlying50 rfl Tryd.sizeOf22 rfl rfl
theorem F51_0 : FieldOff Tryd.prog 51 0 0 := FieldOff.mk Tryd.runUnderlying51 rfl Tryd.sizeOf48 rfl rfl
theorem F51_1 : FieldOff Tryd.prog 51 1 1 := FieldOff.mk Tryd.runUnderlying51 rfl Tryd.sizeOf22 rfl rfl
theorem F55_0 : FieldOff Tryd.prog 55 0 0 := FieldOff.mk Tryd.runUnderlying55 rfl Tryd.sizeOf53 rfl rfl
theorem F57_0 : FieldOff Tryd.prog 57 0 0 := FieldOff.mk Tryd.runUnderlying57 rfl Tryd.sizeOf38 rfl rfl
theorem F57_1 : FieldOff Tryd.prog 57 1 1 := FieldOff.mk Tryd.runUnderlying57 rfl Tryd.sizeOf21 rfl rfl
theorem F57_2 : FieldOff Tryd.prog 57 2 2 := FieldOff.mk Tryd.runUnderlying57 rfl Tryd.sizeOf21 rfl rfl
theorem F57_3 : FieldOff Tryd.prog 57 3 3 := FieldOff.mk Tryd.runUnderlying57 rfl Tryd.sizeOf4 rfl rfl
theorem F57_4 : FieldOff Tryd.prog 57 4 4 := FieldOff.mk Tryd.runUnderlying57 rfl Tryd.sizeOf2 rfl rfl
theorem F57_5 : FieldOff Tryd.prog 57 5 5 := FieldOff.mk Tryd.runUnderlying57 rfl Tryd.sizeOf4 rfl rfl
theorem F57_6 : FieldOff Tryd.prog 57 6 6 := FieldOff.mk Tryd.runUnderlying57 rfl Tryd.sizeOf52 rfl rfl
theorem F57_7 : FieldOff Tryd.prog 57 7 7 := FieldOff.mk Tryd.runUnderlying57 rfl Tryd.sizeOf55 rfl rfl
theorem F65_0 : FieldOff Tryd.prog 65 0 0 := FieldOff.mk Tryd.runUnderlying65 rfl Tryd.sizeOf9 rfl rfl
theorem F65_1 : FieldOff Tryd.prog 65 1 1 := FieldOff.mk Tryd.runUnderlying65 rfl Tryd.sizeOf21 rfl rfl
theorem F65_2 : FieldOff Tryd.prog 65 2 2 := FieldOff.mk Tryd.runUnderlying65 rfl Tryd.sizeOf62 rfl rfl
theorem F65_3 : FieldOff Tryd.prog 65 3 3 := FieldOff.mk Tryd.runUnderlying65 rfl Tryd.sizeOf63 rfl rfl
theorem F65_4 : FieldOff Tryd.prog 65 4 4 := FieldOff.mk Tryd.runUnderlying65 rfl Tryd.sizeOf55 rfl rfl
theorem F70_0 : FieldOff Tryd.prog 70 0 0 := FieldOff.mk Tryd.runUnderlying70 rfl Tryd.sizeOf22 rfl rfl
theorem F70_1 : FieldOff Tryd.prog 70 1 1 := FieldOff.mk Tryd.runUnderlying70 rfl Tryd.sizeOf4 rfl rfl
theorem F78_0 : FieldOff Tryd.prog 78 0 0 := FieldOff.mk Tryd.runUnderlying78 rfl Tryd.sizeOf21 rfl rfl
theorem F78_1 : FieldOff Tryd.prog 78 1 1 := FieldOff.mk Tryd.runUnderlying78 rfl Tryd.sizeOf21 rfl rfl
theorem F78_2 : FieldOff Tryd.prog 78 2 2 := FieldOff.mk Tryd.runUnderlying78 rfl Tryd.sizeOf4 rfl rfl
theorem F78_3 : FieldOff Tryd.prog 78 3 3 := FieldOff.mk Tryd.runUnderlying78 rfl Tryd.sizeOf55 rfl rfl
theorem I21 : TI Tryd.prog 21 1 4 (.int .i32 0) := TI.mk_run Tryd.typeInfo21 rfl rfl rfl (by decide) rfl
theorem I27 : TI Tryd.prog 27 5 88 (.agg #[.int .i64 0, .slice none 0 0, .bool false, .slice none 0 0, .slice none 0 0]) := TI.mk_run Tryd.typeInfo27 rfl rfl rfl (by decide) rfl
theorem I35 : TI Tryd.prog 35 5 88 (.agg #[.int .i64 0, .slice none 0 0, .bool false, .slice none 0 0, .slice none 0 0]) := TI.mk_run Tryd.typeInfo35 rfl rfl rfl (by decide) rfl
theorem I48 : TI Tryd.prog 48 1 4 (.int .u32 0) := TI.mk_run Tryd.typeInfo48 rfl rfl rfl (by decide) rfl
theorem I5 : TI Tryd.prog 5 1 1 (.int .u8 0) := TI.mk_run Tryd.typeInfo5 rfl rfl rfl (by decide) rfl
theorem I50 : TI Tryd.prog 50 2 32 (.agg #[.int .u32 0, .slice none 0 0]) := TI.mk_run Tryd.typeInfo50 rfl rfl rfl (by decide) rfl
theorem I51 : TI Tryd.prog 51 2 32 (.agg #[.int .u32 0, .slice none 0 0]) := TI.mk_run Tryd.typeInfo51 rfl rfl rfl (by decide) rfl
theorem I65 : TI Tryd.prog 65 5 80 (.agg #[.string ⟨#[]⟩, .int .i32 0, .slice none 0 0, .slice none 0 0, .map none]) := TI.mk_run Tryd.typeInfo65 rfl rfl rfl (by decide) rfl
theorem I78 : TI Tryd.prog 78 4 24 (.agg #[.int .i32 0, .int .i32 0, .bool false, .map none]) := TI.mk_run Tryd.typeInfo78 rfl rfl rfl (by decide) rfl
theorem L24 : Sli Tryd.prog 24 27 5 [.int .i64 0, .slice none 0 0, .bool false, .slice none 0 0, .slice none 0 0] := ⟨Tryd.runUnderlying24, Tryd.sizeOf27, ⟨_, Tryd.zeroValue27, rfl⟩, rfl, rfl⟩
theorem L25 : Sli Tryd.prog 25 51 2 [.int .u32 0, .slice none 0 0] := ⟨Tryd.runUnderlying25, Tryd.sizeOf51, ⟨_, Tryd.zeroValue51, rfl⟩, rfl, rfl⟩
theorem L32 : Sli Tryd.prog 32 35 5 [.int .i64 0, .slice none 0 0, .bool false, .slice none 0 0, .slice none 0 0] := ⟨Tryd.runUnderlying32, Tryd.sizeOf35, ⟨_, Tryd.zeroValue35, rfl⟩, rfl, rfl⟩
theorem L33 : Sli Tryd.prog 33 50 2 [.int .u32 0, .slice none 0 0] := ⟨Tryd.runUnderlying33, Tryd.sizeOf50, ⟨_, Tryd.zeroValue50, rfl⟩, rfl, rfl⟩
theorem L83 : Sli Tryd.prog 83 48 1 [.int .u32 0] := ⟨Tryd.runUnderlying83, Tryd.sizeOf48, ⟨_, Tryd.zeroValue48, rfl⟩, rfl, rfl⟩
theorem S27 : Stru Tryd.prog 27 [(0, 1), (1, 1), (2, 1), (3, 1), (4, 1)] [.int .i64 0, .slice none 0 0, .bool false, .slice none 0 0, .slice none 0 0] := ⟨Tryd.zeroValue27, _, Tryd.runUnderlying27, fun w => by kernel_rfl⟩
theorem S35 : Stru Tryd.prog 35 [(0, 1), (1, 1), (2, 1), (3, 1), (4, 1)] [.int .i64 0, .slice none 0 0, .bool false, .slice none 0 0, .slice none 0 0] := ⟨Tryd.zeroValue35, _, Tryd.runUnderlying35, fun w => by kernel_rfl⟩
theorem S50 : Stru Tryd.prog 50 [(0, 1), (1, 1)] [.int .u32 0, .slice none 0 0] := ⟨Tryd.zeroValue50, _, Tryd.runUnderlying50, fun w => by kernel_rfl⟩
theorem S51 : Stru Tryd.prog 51 [(0, 1), (1, 1)] [.int .u32 0, .slice none 0 0] := ⟨Tryd.zeroValue51, _, Tryd.runUnderlying51, fun w => by kernel_rfl⟩
theorem S70 : Stru Tryd.prog 70 [(0, 1), (1, 1)] [.slice none 0 0, .bool false] := ⟨Tryd.zeroValue70, _, Tryd.runUnderlying70, fun w => by kernel_rfl⟩
end Go.Sx

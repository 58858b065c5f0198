import Derived.Test.YthegbjcccjpbcaaGreatDoorProg
import Derived.Test.YthegbjcccjpbcaaGreatDoorLibA
import Derived.KernelRfl
set_option linter.unusedVariables false
set_option linter.unusedSimpArgs false
namespace Go.Sx
open Go.Proofs
theorem mixed : Tryz.prog.follows .mixedOrders = true := by kernel_rfl
theorem F104_0 : FieldOff Tryz.prog 104 0 0 := FieldOff.mk Tryz.runUnderlying104 rfl Tryz.sizeOf22 rfl rfl
theorem F104_1 : FieldOff Tryz.prog 104 1 1 := FieldOff.mk Tryz.runUnderlying104 rfl Tryz.sizeOf4 rfl rfl
theorem F116_0 : FieldOff Tryz.prog 116 0 0 := FieldOff.mk Tryz.runUnderlying116 rfl Tryz.sizeOf46 rfl rfl
theorem F116_1 : FieldOff Tryz.prog 116 1 1 := FieldOff.mk Tryz.runUnderlying116 rfl Tryz.sizeOf21 rfl rfl
theorem F116_2 : FieldOff Tryz.prog 116 2 2 := FieldOff.mk Tryz.runUnderlying116 rfl Tryz.sizeOf21 rfl rfl
theorem F116_3 : FieldOff Tryz.prog 116 3 3 := FieldOff.mk Tryz.runUnderlying116 rfl Tryz.sizeOf21 rfl rfl
theorem F116_4 : FieldOff Tryz.prog 116 4 4 := FieldOff.mk Tryz.runUnderlying116 rfl Tryz.sizeOf114 rfl rfl
theorem F116_5 : FieldOff Tryz.prog 116 5 5 := FieldOff.mk Tryz.runUnderlying116 rfl Tryz.sizeOf114 rfl rfl
theorem F116_6 : FieldOff Tryz.prog 116 6 6 := FieldOff.mk Tryz.runUnderlying116 rfl Tryz.sizeOf114 rfl rfl
theorem F116_7 : FieldOff Tryz.prog 116 7 7 := FieldOff.mk Tryz.runUnderlying116 rfl Tryz.sizeOf76 rfl rfl
theorem F26_0 : FieldOff Tryz.prog 26 0 0 := FieldOff.mk Tryz.runUnderlying26 rfl Tryz.sizeOf2 rfl rfl
theorem F26_1 : FieldOff Tryz.prog 26 1 1 := FieldOff.mk Tryz.runUnderlying26 rfl Tryz.sizeOf22 rfl rfl
theorem F26_2 : FieldOff Tryz.prog 26 2 2 := FieldOff.mk Tryz.runUnderlying26 rfl Tryz.sizeOf4 rfl rfl
theorem F26_3 : FieldOff Tryz.prog 26 3 3 := FieldOff.mk Tryz.runUnderlying26 rfl Tryz.sizeOf23 rfl rfl
theorem F26_4 : FieldOff Tryz.prog 26 4 4 := FieldOff.mk Tryz.runUnderlying26 rfl Tryz.sizeOf24 rfl rfl
theorem F31_0 : FieldOff Tryz.prog 31 0 0 := FieldOff.mk Tryz.runUnderlying31 rfl Tryz.sizeOf29 rfl rfl
theorem F31_1 : FieldOff Tryz.prog 31 1 1 := FieldOff.mk Tryz.runUnderlying31 rfl Tryz.sizeOf3 rfl rfl
theorem F37_0 : FieldOff Tryz.prog 37 0 0 := FieldOff.mk Tryz.runUnderlying37 rfl Tryz.sizeOf2 rfl rfl
theorem F37_1 : FieldOff Tryz.prog 37 1 1 := FieldOff.mk Tryz.runUnderlying37 rfl Tryz.sizeOf22 rfl rfl
theorem F37_2 : FieldOff Tryz.prog 37 2 2 := FieldOff.mk Tryz.runUnderlying37 rfl Tryz.sizeOf4 rfl rfl
theorem F37_3 : FieldOff Tryz.prog 37 3 3 := FieldOff.mk Tryz.runUnderlying37 rfl Tryz.sizeOf34 rfl rfl
theorem F37_4 : FieldOff Tryz.prog 37 4 4 := FieldOff.mk Tryz.runUnderlying37 rfl Tryz.sizeOf35 rfl rfl
theorem F51_0 : FieldOff Tryz.prog 51 0 0 := FieldOff.mk Tryz.runUnderlying51 rfl Tryz.sizeOf3 rfl rfl
theorem F51_1 : FieldOff Tryz.prog 51 1 1 := FieldOff.mk Tryz.runUnderlying51 rfl Tryz.sizeOf3 rfl rfl
theorem F51_2 : FieldOff Tryz.prog 51 2 2 := FieldOff.mk Tryz.runUnderlying51 rfl Tryz.sizeOf3 rfl rfl
theorem F51_3 : FieldOff Tryz.prog 51 3 3 := FieldOff.mk Tryz.runUnderlying51 rfl Tryz.sizeOf3 rfl rfl
theorem F51_4 : FieldOff Tryz.prog 51 4 4 := FieldOff.mk Tryz.runUnderlying51 rfl Tryz.sizeOf3 rfl rfl
theorem F51_5 : FieldOff Tryz.prog 51 5 5 := FieldOff.mk Tryz.runUnderlying51 rfl Tryz.sizeOf2 rfl rfl
theorem F51_6 : FieldOff Tryz.prog 51 6 6 := FieldOff.mk Tryz.runUnderlying51 rfl Tryz.sizeOf3 rfl rfl
theorem F51_7 : FieldOff Tryz.prog 51 7 7 := FieldOff.mk Tryz.runUnderlying51 rfl Tryz.sizeOf29 rfl rfl
theorem F66_0 : FieldOff Tryz.prog 66 0 0 := FieldOff.mk Tryz.runUnderlying66 rfl Tryz.sizeOf64 rfl rfl
theorem F66_1 : FieldOff Tryz.prog 66 1 1 := FieldOff.mk Tryz.runUnderlying66 rfl Tryz.sizeOf22 rfl rfl
theorem F69_0 : FieldOff Tryz.prog 69 0 0 := FieldOff.mk Tryz.runUnderlying69 rfl Tryz.sizeOf64 rfl rfl
theorem F69_1 : FieldOff Tryz.prog 69 1 1 := FieldOff.mk Tryz.runUnderlying69 rfl Tryz.sizeOf22 rfl rfl
theorem F76_0 : FieldOff Tryz.prog 76 0 0 := FieldOff.mk Tryz.runUnderlying76 rfl Tryz.sizeOf74 rfl rfl
theorem F78_0 : FieldOff Tryz.prog 78 0 0 := FieldOff.mk Tryz.runUnderlying78 rfl Tryz.sizeOf46 rfl rfl
theorem F78_1 : FieldOff Tryz.prog 78 1 1 := FieldOff.mk Tryz.runUnderlying78 rfl Tryz.sizeOf21 rfl rfl
theorem F78_2 : FieldOff Tryz.prog 78 2 2 := FieldOff.mk Tryz.runUnderlying78 rfl Tryz.sizeOf71 rfl rfl
theorem F78_3 : FieldOff Tryz.prog 78 3 3 := FieldOff.mk Tryz.runUnderlying78 rfl Tryz.sizeOf72 rfl rfl
theorem F78_4 : FieldOff Tryz.prog 78 4 4 := FieldOff.mk Tryz.runUnderlying78 rfl Tryz.sizeOf21 rfl rfl
theorem F78_5 : FieldOff Tryz.prog 78 5 5 := FieldOff.mk Tryz.runUnderlying78 rfl Tryz.sizeOf73 rfl rfl
theorem F78_6 : FieldOff Tryz.prog 78 6 6 := FieldOff.mk Tryz.runUnderlying78 rfl Tryz.sizeOf21 rfl rfl
theorem F78_7 : FieldOff Tryz.prog 78 7 7 := FieldOff.mk Tryz.runUnderlying78 rfl Tryz.sizeOf46 rfl rfl
theorem F78_8 : FieldOff Tryz.prog 78 8 8 := FieldOff.mk Tryz.runUnderlying78 rfl Tryz.sizeOf76 rfl rfl
theorem F83_0 : FieldOff Tryz.prog 83 0 0 := FieldOff.mk Tryz.runUnderlying83 rfl Tryz.sizeOf21 rfl rfl
theorem F83_1 : FieldOff Tryz.prog 83 1 1 := FieldOff.mk Tryz.runUnderlying83 rfl Tryz.sizeOf9 rfl rfl
theorem F83_2 : FieldOff Tryz.prog 83 2 2 := FieldOff.mk Tryz.runUnderlying83 rfl Tryz.sizeOf21 rfl rfl
theorem F83_3 : FieldOff Tryz.prog 83 3 3 := FieldOff.mk Tryz.runUnderlying83 rfl Tryz.sizeOf72 rfl rfl
theorem F83_4 : FieldOff Tryz.prog 83 4 4 := FieldOff.mk Tryz.runUnderlying83 rfl Tryz.sizeOf76 rfl rfl
theorem F90_0 : FieldOff Tryz.prog 90 0 0 := FieldOff.mk Tryz.runUnderlying90 rfl Tryz.sizeOf46 rfl rfl
theorem F90_1 : FieldOff Tryz.prog 90 1 1 := FieldOff.mk Tryz.runUnderlying90 rfl Tryz.sizeOf72 rfl rfl
theorem F90_2 : FieldOff Tryz.prog 90 2 2 := FieldOff.mk Tryz.runUnderlying90 rfl Tryz.sizeOf87 rfl rfl
theorem F90_3 : FieldOff Tryz.prog 90 3 18 := FieldOff.mk Tryz.runUnderlying90 rfl Tryz.sizeOf4 rfl rfl
theorem F90_4 : FieldOff Tryz.prog 90 4 19 := FieldOff.mk Tryz.runUnderlying90 rfl Tryz.sizeOf88 rfl rfl
theorem F90_5 : FieldOff Tryz.prog 90 5 20 := FieldOff.mk Tryz.runUnderlying90 rfl Tryz.sizeOf21 rfl rfl
theorem F90_6 : FieldOff Tryz.prog 90 6 21 := FieldOff.mk Tryz.runUnderlying90 rfl Tryz.sizeOf76 rfl rfl
theorem I116 : TI Tryz.prog 116 8 96 (.agg #[.int .i16 0, .int .i32 0, .int .i32 0, .int .i32 0, .slice none 0 0, .slice none 0 0, .slice none 0 0, .map none]) := TI.mk_run Tryz.typeInfo116 rfl rfl rfl (by decide) rfl
theorem I21 : TI Tryz.prog 21 1 4 (.int .i32 0) := TI.mk_run Tryz.typeInfo21 rfl rfl rfl (by decide) rfl
theorem I26 : TI Tryz.prog 26 5 88 (.agg #[.int .i64 0, .slice none 0 0, .bool false, .slice none 0 0, .slice none 0 0]) := TI.mk_run Tryz.typeInfo26 rfl rfl rfl (by decide) rfl
theorem I37 : TI Tryz.prog 37 5 88 (.agg #[.int .i64 0, .slice none 0 0, .bool false, .slice none 0 0, .slice none 0 0]) := TI.mk_run Tryz.typeInfo37 rfl rfl rfl (by decide) rfl
theorem I5 : TI Tryz.prog 5 1 1 (.int .u8 0) := TI.mk_run Tryz.typeInfo5 rfl rfl rfl (by decide) rfl
theorem I64 : TI Tryz.prog 64 1 4 (.int .u32 0) := TI.mk_run Tryz.typeInfo64 rfl rfl rfl (by decide) rfl
theorem I66 : TI Tryz.prog 66 2 32 (.agg #[.int .u32 0, .slice none 0 0]) := TI.mk_run Tryz.typeInfo66 rfl rfl rfl (by decide) rfl
theorem I69 : TI Tryz.prog 69 2 32 (.agg #[.int .u32 0, .slice none 0 0]) := TI.mk_run Tryz.typeInfo69 rfl rfl rfl (by decide) rfl
theorem I83 : TI Tryz.prog 83 5 48 (.agg #[.int .i32 0, .string ⟨#[]⟩, .int .i32 0, .pointer none, .map none]) := TI.mk_run Tryz.typeInfo83 rfl rfl rfl (by decide) rfl
theorem I90 : TI Tryz.prog 90 22 80 (.agg #[.int .i16 0, .pointer none, .int .u8 0, .int .u8 0, .int .u8 0, .int .u8 0, .int .u8 0, .int .u8 0, .int .u8 0, .int .u8 0, .int .u8 0, .int .u8 0, .int .u8 0, .int .u8 0, .int .u8 0, .int .u8 0, .int .u8 0, .int .u8 0, .bool false, .slice none 0 0, .int .i32 0, .map none]) := TI.mk_run Tryz.typeInfo90 rfl rfl rfl (by decide) rfl
theorem L120 : Sli Tryz.prog 120 64 1 [.int .u32 0] := ⟨Tryz.runUnderlying120, Tryz.sizeOf64, ⟨_, Tryz.zeroValue64, rfl⟩, rfl, rfl⟩
theorem L22 : Sli Tryz.prog 22 5 1 [.int .u8 0] := ⟨Tryz.runUnderlying22, Tryz.sizeOf5, ⟨_, Tryz.zeroValue5, rfl⟩, rfl, rfl⟩
theorem L23 : Sli Tryz.prog 23 26 5 [.int .i64 0, .slice none 0 0, .bool false, .slice none 0 0, .slice none 0 0] := ⟨Tryz.runUnderlying23, Tryz.sizeOf26, ⟨_, Tryz.zeroValue26, rfl⟩, rfl, rfl⟩
theorem L24 : Sli Tryz.prog 24 66 2 [.int .u32 0, .slice none 0 0] := ⟨Tryz.runUnderlying24, Tryz.sizeOf66, ⟨_, Tryz.zeroValue66, rfl⟩, rfl, rfl⟩
theorem L29 : Sli Tryz.prog 29 51 8 [.int .i64 0, .int .i64 0, .int .i64 0, .int .i64 0, .int .i64 0, .int .i64 0, .int .i64 0, .slice none 0 0] := ⟨Tryz.runUnderlying29, Tryz.sizeOf51, ⟨_, Tryz.zeroValue51, rfl⟩, rfl, rfl⟩
theorem L34 : Sli Tryz.prog 34 37 5 [.int .i64 0, .slice none 0 0, .bool false, .slice none 0 0, .slice none 0 0] := ⟨Tryz.runUnderlying34, Tryz.sizeOf37, ⟨_, Tryz.zeroValue37, rfl⟩, rfl, rfl⟩
theorem L35 : Sli Tryz.prog 35 69 2 [.int .u32 0, .slice none 0 0] := ⟨Tryz.runUnderlying35, Tryz.sizeOf69, ⟨_, Tryz.zeroValue69, rfl⟩, rfl, rfl⟩
theorem S104 : Stru Tryz.prog 104 [(0, 1), (1, 1)] [.slice none 0 0, .bool false] := ⟨Tryz.zeroValue104, _, Tryz.runUnderlying104, fun w => by kernel_rfl⟩
theorem S26 : Stru Tryz.prog 26 [(0, 1), (1, 1), (2, 1), (3, 1), (4, 1)] [.int .i64 0, .slice none 0 0, .bool false, .slice none 0 0, .slice none 0 0] := ⟨Tryz.zeroValue26, _, Tryz.runUnderlying26, fun w => by kernel_rfl⟩
theorem S31 : Stru Tryz.prog 31 [(0, 1), (1, 1)] [.slice none 0 0, .int .i64 0] := ⟨Tryz.zeroValue31, _, Tryz.runUnderlying31, fun w => by kernel_rfl⟩
theorem S37 : Stru Tryz.prog 37 [(0, 1), (1, 1), (2, 1), (3, 1), (4, 1)] [.int .i64 0, .slice none 0 0, .bool false, .slice none 0 0, .slice none 0 0] := ⟨Tryz.zeroValue37, _, Tryz.runUnderlying37, fun w => by kernel_rfl⟩
theorem S51 : Stru Tryz.prog 51 [(0, 1), (1, 1), (2, 1), (3, 1), (4, 1), (5, 1), (6, 1), (7, 1)] [.int .i64 0, .int .i64 0, .int .i64 0, .int .i64 0, .int .i64 0, .int .i64 0, .int .i64 0, .slice none 0 0] := ⟨Tryz.zeroValue51, _, Tryz.runUnderlying51, fun w => by kernel_rfl⟩
theorem S66 : Stru Tryz.prog 66 [(0, 1), (1, 1)] [.int .u32 0, .slice none 0 0] := ⟨Tryz.zeroValue66, _, Tryz.runUnderlying66, fun w => by kernel_rfl⟩
theorem S69 : Stru Tryz.prog 69 [(0, 1), (1, 1)] [.int .u32 0, .slice none 0 0] := ⟨Tryz.zeroValue69, _, Tryz.runUnderlying69, fun w => by kernel_rfl⟩
end Go.Sx

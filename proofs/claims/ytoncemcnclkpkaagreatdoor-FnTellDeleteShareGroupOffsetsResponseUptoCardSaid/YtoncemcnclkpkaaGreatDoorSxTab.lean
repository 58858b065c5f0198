import Derived.Test.YtoncemcnclkpkaaGreatDoorProg
import Derived.Test.YtoncemcnclkpkaaGreatDoorLibA
import Derived.KernelRfl
set_option linter.unusedVariables false
set_option linter.unusedSimpArgs false
namespace Go.Sx
open Go.Proofs
theorem mixed : Tryz.prog.follows .mixedOrders = true := by kernel_rfl
theorem F108_0 : FieldOff Tryz.prog 108 0 0 := FieldOff.mk Tryz.runUnderlying108 rfl Tryz.sizeOf46 rfl rfl
theorem F108_1 : FieldOff Tryz.prog 108 1 1 := FieldOff.mk Tryz.runUnderlying108 rfl Tryz.sizeOf106 rfl rfl
theorem F108_2 : FieldOff Tryz.prog 108 2 2 := FieldOff.mk Tryz.runUnderlying108 rfl Tryz.sizeOf86 rfl rfl
theorem F113_0 : FieldOff Tryz.prog 113 0 0 := FieldOff.mk Tryz.runUnderlying113 rfl Tryz.sizeOf9 rfl rfl
theorem F113_1 : FieldOff Tryz.prog 113 1 1 := FieldOff.mk Tryz.runUnderlying113 rfl Tryz.sizeOf111 rfl rfl
theorem F113_2 : FieldOff Tryz.prog 113 2 2 := FieldOff.mk Tryz.runUnderlying113 rfl Tryz.sizeOf86 rfl rfl
theorem F117_0 : FieldOff Tryz.prog 117 0 0 := FieldOff.mk Tryz.runUnderlying117 rfl Tryz.sizeOf46 rfl rfl
theorem F117_1 : FieldOff Tryz.prog 117 1 1 := FieldOff.mk Tryz.runUnderlying117 rfl Tryz.sizeOf21 rfl rfl
theorem F117_2 : FieldOff Tryz.prog 117 2 2 := FieldOff.mk Tryz.runUnderlying117 rfl Tryz.sizeOf46 rfl rfl
theorem F117_3 : FieldOff Tryz.prog 117 3 3 := FieldOff.mk Tryz.runUnderlying117 rfl Tryz.sizeOf114 rfl rfl
theorem F117_4 : FieldOff Tryz.prog 117 4 4 := FieldOff.mk Tryz.runUnderlying117 rfl Tryz.sizeOf115 rfl rfl
theorem F117_5 : FieldOff Tryz.prog 117 5 5 := FieldOff.mk Tryz.runUnderlying117 rfl Tryz.sizeOf86 rfl rfl
theorem F123_0 : FieldOff Tryz.prog 123 0 0 := FieldOff.mk Tryz.runUnderlying123 rfl Tryz.sizeOf9 rfl rfl
theorem F123_1 : FieldOff Tryz.prog 123 1 1 := FieldOff.mk Tryz.runUnderlying123 rfl Tryz.sizeOf121 rfl rfl
theorem F123_2 : FieldOff Tryz.prog 123 2 17 := FieldOff.mk Tryz.runUnderlying123 rfl Tryz.sizeOf46 rfl rfl
theorem F123_3 : FieldOff Tryz.prog 123 3 18 := FieldOff.mk Tryz.runUnderlying123 rfl Tryz.sizeOf114 rfl rfl
theorem F123_4 : FieldOff Tryz.prog 123 4 19 := FieldOff.mk Tryz.runUnderlying123 rfl Tryz.sizeOf86 rfl rfl
theorem F126_0 : FieldOff Tryz.prog 126 0 0 := FieldOff.mk Tryz.runUnderlying126 rfl Tryz.sizeOf46 rfl rfl
theorem F126_1 : FieldOff Tryz.prog 126 1 1 := FieldOff.mk Tryz.runUnderlying126 rfl Tryz.sizeOf21 rfl rfl
theorem F126_2 : FieldOff Tryz.prog 126 2 2 := FieldOff.mk Tryz.runUnderlying126 rfl Tryz.sizeOf46 rfl rfl
theorem F126_3 : FieldOff Tryz.prog 126 3 3 := FieldOff.mk Tryz.runUnderlying126 rfl Tryz.sizeOf114 rfl rfl
theorem F126_4 : FieldOff Tryz.prog 126 4 4 := FieldOff.mk Tryz.runUnderlying126 rfl Tryz.sizeOf124 rfl rfl
theorem F126_5 : FieldOff Tryz.prog 126 5 5 := FieldOff.mk Tryz.runUnderlying126 rfl Tryz.sizeOf86 rfl rfl
theorem F131_0 : FieldOff Tryz.prog 131 0 0 := FieldOff.mk Tryz.runUnderlying131 rfl Tryz.sizeOf9 rfl rfl
theorem F131_1 : FieldOff Tryz.prog 131 1 1 := FieldOff.mk Tryz.runUnderlying131 rfl Tryz.sizeOf46 rfl rfl
theorem F131_2 : FieldOff Tryz.prog 131 2 2 := FieldOff.mk Tryz.runUnderlying131 rfl Tryz.sizeOf114 rfl rfl
theorem F131_3 : FieldOff Tryz.prog 131 3 3 := FieldOff.mk Tryz.runUnderlying131 rfl Tryz.sizeOf129 rfl rfl
theorem F131_4 : FieldOff Tryz.prog 131 4 4 := FieldOff.mk Tryz.runUnderlying131 rfl Tryz.sizeOf86 rfl rfl
theorem F134_0 : FieldOff Tryz.prog 134 0 0 := FieldOff.mk Tryz.runUnderlying134 rfl Tryz.sizeOf46 rfl rfl
theorem F134_1 : FieldOff Tryz.prog 134 1 1 := FieldOff.mk Tryz.runUnderlying134 rfl Tryz.sizeOf132 rfl rfl
theorem F134_2 : FieldOff Tryz.prog 134 2 2 := FieldOff.mk Tryz.runUnderlying134 rfl Tryz.sizeOf4 rfl rfl
theorem F134_3 : FieldOff Tryz.prog 134 3 3 := FieldOff.mk Tryz.runUnderlying134 rfl Tryz.sizeOf86 rfl rfl
theorem F141_0 : FieldOff Tryz.prog 141 0 0 := FieldOff.mk Tryz.runUnderlying141 rfl Tryz.sizeOf138 rfl rfl
theorem F141_1 : FieldOff Tryz.prog 141 1 1 := FieldOff.mk Tryz.runUnderlying141 rfl Tryz.sizeOf9 rfl rfl
theorem F141_2 : FieldOff Tryz.prog 141 2 2 := FieldOff.mk Tryz.runUnderlying141 rfl Tryz.sizeOf139 rfl rfl
theorem F141_3 : FieldOff Tryz.prog 141 3 3 := FieldOff.mk Tryz.runUnderlying141 rfl Tryz.sizeOf86 rfl rfl
theorem F144_0 : FieldOff Tryz.prog 144 0 0 := FieldOff.mk Tryz.runUnderlying144 rfl Tryz.sizeOf22 rfl rfl
theorem F144_1 : FieldOff Tryz.prog 144 1 1 := FieldOff.mk Tryz.runUnderlying144 rfl Tryz.sizeOf4 rfl rfl
theorem F161_0 : FieldOff Tryz.prog 161 0 0 := FieldOff.mk Tryz.runUnderlying161 rfl Tryz.sizeOf21 rfl rfl
theorem F161_1 : FieldOff Tryz.prog 161 1 1 := FieldOff.mk Tryz.runUnderlying161 rfl Tryz.sizeOf86 rfl rfl
theorem F167_0 : FieldOff Tryz.prog 167 0 0 := FieldOff.mk Tryz.runUnderlying167 rfl Tryz.sizeOf137 rfl rfl
theorem F167_1 : FieldOff Tryz.prog 167 1 1 := FieldOff.mk Tryz.runUnderlying167 rfl Tryz.sizeOf21 rfl rfl
theorem F167_2 : FieldOff Tryz.prog 167 2 2 := FieldOff.mk Tryz.runUnderlying167 rfl Tryz.sizeOf86 rfl rfl
theorem F173_0 : FieldOff Tryz.prog 173 0 0 := FieldOff.mk Tryz.runUnderlying173 rfl Tryz.sizeOf9 rfl rfl
theorem F173_1 : FieldOff Tryz.prog 173 1 1 := FieldOff.mk Tryz.runUnderlying173 rfl Tryz.sizeOf171 rfl rfl
theorem F173_2 : FieldOff Tryz.prog 173 2 2 := FieldOff.mk Tryz.runUnderlying173 rfl Tryz.sizeOf114 rfl rfl
theorem F173_3 : FieldOff Tryz.prog 173 3 3 := FieldOff.mk Tryz.runUnderlying173 rfl Tryz.sizeOf86 rfl rfl
theorem F26_0 : FieldOff Tryz.prog 26 0 0 := FieldOff.mk Tryz.runUnderlying26 rfl Tryz.sizeOf2 rfl rfl
theorem F26_1 : FieldOff Tryz.prog 26 1 1 := FieldOff.mk Tryz.runUnderlying26 rfl Tryz.sizeOf22 rfl rfl
theorem F26_2 : FieldOff Tryz.prog 26 2 2 := FieldOff.mk Tryz.runUnderlying26 rfl Tryz.sizeOf4 rfl rfl
theorem F26_3 : FieldOff Tryz.prog 26 3 3 := FieldOff.mk Tryz.runUnderlying26 rfl Tryz.sizeOf23 rfl rfl
theorem F26_4 : FieldOff Tryz.prog 26 4 4 := FieldOff.mk Tryz.runUnderlying26 rfl Tryz.sizeOf24 rfl rfl
theorem F31_0 : FieldOff Tryz.prog 31 0 0 := FieldOff.mk Tryz.runUnderlying31 rfl Tryz.sizeOf29 rfl rfl
theorem F31_1 : FieldOff Tryz.prog 31 1 1 := FieldOff.mk Tryz.runUnderlying31 rfl Tryz.sizeOf3 rfl rfl
theorem F37_0 : FieldOff Tryz.prog 37 0 0 := FieldOff.mk Tryz.runUnderlying37 rfl Tryz.sizeOf2 rfl rfl
theorem F37_1 : FieldOff Tryz.prog 37 1 1 := FieldOff.mk Tryz.runUnderlying37 rfl Tryz.sizeOf22 rfl rfl
theorem F37_2 : FieldOff Tryz.prog 37 2 2 := FieldOff.mk Tryz.runUnderlying37 rfl Tryz.sizeOf4 rfl rfl
theorem F37_3 : FieldOff Tryz.prog 37 3 3 := FieldOff.mk Tryz.runUnderlying37 rfl Tryz.sizeOf34 rfl rfl
theorem F37_4 : FieldOff Tryz.prog 37 4 4 := FieldOff.mk Tryz.runUnderlying37 rfl Tryz.sizeOf35 rfl rfl
theorem F51_0 : FieldOff Tryz.prog 51 0 0 := FieldOff.mk Tryz.runUnderlying51 rfl Tryz.sizeOf3 rfl rfl
theorem F51_1 : FieldOff Tryz.prog 51 1 1 := FieldOff.mk Tryz.runUnderlying51 rfl Tryz.sizeOf3 rfl rfl
theorem F51_2 : FieldOff Tryz.prog 51 2 2 := FieldOff.mk Tryz.runUnderlying51 rfl Tryz.sizeOf3 rfl rfl
theorem F51_3 : FieldOff Tryz.prog 51 3 3 := FieldOff.mk Tryz.runUnderlying51 rfl Tryz.sizeOf3 rfl rfl
theorem F51_4 : FieldOff Tryz.prog 51 4 4 := FieldOff.mk Tryz.runUnderlying51 rfl Tryz.sizeOf3 rfl rfl
theorem F51_5 : FieldOff Tryz.prog 51 5 5 := FieldOff.mk Tryz.runUnderlying51 rfl Tryz.sizeOf2 rfl rfl
theorem F51_6 : FieldOff Tryz.prog 51 6 6 := FieldOff.mk Tryz.runUnderlying51 rfl Tryz.sizeOf3 rfl rfl
theorem F51_7 : FieldOff Tryz.prog 51 7 7 := FieldOff.mk Tryz.runUnderlying51 rfl Tryz.sizeOf29 rfl rfl
theorem F66_0 : FieldOff Tryz.prog 66 0 0 := FieldOff.mk Tryz.runUnderlying66 rfl Tryz.sizeOf64 rfl rfl
theorem F66_1 : FieldOff Tryz.prog 66 1 1 := FieldOff.mk Tryz.runUnderlying66 rfl Tryz.sizeOf22 rfl rfl
theorem F69_0 : FieldOff Tryz.prog 69 0 0 := FieldOff.mk Tryz.runUnderlying69 rfl Tryz.sizeOf64 rfl rfl
theorem F69_1 : FieldOff Tryz.prog 69 1 1 := FieldOff.mk Tryz.runUnderlying69 rfl Tryz.sizeOf22 rfl rfl
theorem F86_0 : FieldOff Tryz.prog 86 0 0 := FieldOff.mk Tryz.runUnderlying86 rfl Tryz.sizeOf84 rfl rfl
theorem F88_0 : FieldOff Tryz.prog 88 0 0 := FieldOff.mk Tryz.runUnderlying88 rfl Tryz.sizeOf46 rfl rfl
theorem F88_1 : FieldOff Tryz.prog 88 1 1 := FieldOff.mk Tryz.runUnderlying88 rfl Tryz.sizeOf46 rfl rfl
theorem F88_2 : FieldOff Tryz.prog 88 2 2 := FieldOff.mk Tryz.runUnderlying88 rfl Tryz.sizeOf83 rfl rfl
theorem F88_3 : FieldOff Tryz.prog 88 3 3 := FieldOff.mk Tryz.runUnderlying88 rfl Tryz.sizeOf86 rfl rfl
theorem F93_0 : FieldOff Tryz.prog 93 0 0 := FieldOff.mk Tryz.runUnderlying93 rfl Tryz.sizeOf9 rfl rfl
theorem F93_1 : FieldOff Tryz.prog 93 1 1 := FieldOff.mk Tryz.runUnderlying93 rfl Tryz.sizeOf21 rfl rfl
theorem F93_2 : FieldOff Tryz.prog 93 2 2 := FieldOff.mk Tryz.runUnderlying93 rfl Tryz.sizeOf86 rfl rfl
theorem I113 : TI Tryz.prog 113 3 48 (.agg #[.string ⟨#[]⟩, .slice none 0 0, .map none]) := TI.mk_run Tryz.typeInfo113 rfl rfl rfl (by decide) rfl
theorem I123 : TI Tryz.prog 123 20 56 (.agg #[.string ⟨#[]⟩, .int .u8 0, .int .u8 0, .int .u8 0, .int .u8 0, .int .u8 0, .int .u8 0, .int .u8 0, .int .u8 0, .int .u8 0, .int .u8 0, .int .u8 0, .int .u8 0, .int .u8 0, .int .u8 0, .int .u8 0, .int .u8 0, .int .i16 0, .pointer none, .map none]) := TI.mk_run Tryz.typeInfo123 rfl rfl rfl (by decide) rfl
theorem I131 : TI Tryz.prog 131 5 64 (.agg #[.string ⟨#[]⟩, .int .i16 0, .pointer none, .slice none 0 0, .map none]) := TI.mk_run Tryz.typeInfo131 rfl rfl rfl (by decide) rfl
theorem I141 : TI Tryz.prog 141 4 56 (.agg #[.int .i8 0, .string ⟨#[]⟩, .slice none 0 0, .map none]) := TI.mk_run Tryz.typeInfo141 rfl rfl rfl (by decide) rfl
theorem I161 : TI Tryz.prog 161 2 16 (.agg #[.int .i32 0, .map none]) := TI.mk_run Tryz.typeInfo161 rfl rfl rfl (by decide) rfl
theorem I167 : TI Tryz.prog 167 3 16 (.agg #[.int .i8 0, .int .i32 0, .map none]) := TI.mk_run Tryz.typeInfo167 rfl rfl rfl (by decide) rfl
theorem I173 : TI Tryz.prog 173 4 40 (.agg #[.string ⟨#[]⟩, .int .i8 0, .pointer none, .map none]) := TI.mk_run Tryz.typeInfo173 rfl rfl rfl (by decide) rfl
theorem I26 : TI Tryz.prog 26 5 88 (.agg #[.int .i64 0, .slice none 0 0, .bool false, .slice none 0 0, .slice none 0 0]) := TI.mk_run Tryz.typeInfo26 rfl rfl rfl (by decide) rfl
theorem I37 : TI Tryz.prog 37 5 88 (.agg #[.int .i64 0, .slice none 0 0, .bool false, .slice none 0 0, .slice none 0 0]) := TI.mk_run Tryz.typeInfo37 rfl rfl rfl (by decide) rfl
theorem I5 : TI Tryz.prog 5 1 1 (.int .u8 0) := TI.mk_run Tryz.typeInfo5 rfl rfl rfl (by decide) rfl
theorem I64 : TI Tryz.prog 64 1 4 (.int .u32 0) := TI.mk_run Tryz.typeInfo64 rfl rfl rfl (by decide) rfl
theorem I66 : TI Tryz.prog 66 2 32 (.agg #[.int .u32 0, .slice none 0 0]) := TI.mk_run Tryz.typeInfo66 rfl rfl rfl (by decide) rfl
theorem I69 : TI Tryz.prog 69 2 32 (.agg #[.int .u32 0, .slice none 0 0]) := TI.mk_run Tryz.typeInfo69 rfl rfl rfl (by decide) rfl
theorem I93 : TI Tryz.prog 93 3 32 (.agg #[.string ⟨#[]⟩, .int .i32 0, .map none]) := TI.mk_run Tryz.typeInfo93 rfl rfl rfl (by decide) rfl
theorem L152 : Sli Tryz.prog 152 64 1 [.int .u32 0] := ⟨Tryz.runUnderlying152, Tryz.sizeOf64, ⟨_, Tryz.zeroValue64, rfl⟩, rfl, rfl⟩
theorem L22 : Sli Tryz.prog 22 5 1 [.int .u8 0] := ⟨Tryz.runUnderlying22, Tryz.sizeOf5, ⟨_, Tryz.zeroValue5, rfl⟩, rfl, rfl⟩
theorem L23 : Sli Tryz.prog 23 26 5 [.int .i64 0, .slice none 0 0, .bool false, .slice none 0 0, .slice none 0 0] := ⟨Tryz.runUnderlying23, Tryz.sizeOf26, ⟨_, Tryz.zeroValue26, rfl⟩, rfl, rfl⟩
theorem L24 : Sli Tryz.prog 24 66 2 [.int .u32 0, .slice none 0 0] := ⟨Tryz.runUnderlying24, Tryz.sizeOf66, ⟨_, Tryz.zeroValue66, rfl⟩, rfl, rfl⟩
theorem L29 : Sli Tryz.prog 29 51 8 [.int .i64 0, .int .i64 0, .int .i64 0, .int .i64 0, .int .i64 0, .int .i64 0, .int .i64 0, .slice none 0 0] := ⟨Tryz.runUnderlying29, Tryz.sizeOf51, ⟨_, Tryz.zeroValue51, rfl⟩, rfl, rfl⟩
theorem L34 : Sli Tryz.prog 34 37 5 [.int .i64 0, .slice none 0 0, .bool false, .slice none 0 0, .slice none 0 0] := ⟨Tryz.runUnderlying34, Tryz.sizeOf37, ⟨_, Tryz.zeroValue37, rfl⟩, rfl, rfl⟩
theorem L35 : Sli Tryz.prog 35 69 2 [.int .u32 0, .slice none 0 0] := ⟨Tryz.runUnderlying35, Tryz.sizeOf69, ⟨_, Tryz.zeroValue69, rfl⟩, rfl, rfl⟩
theorem S144 : Stru Tryz.prog 144 [(0, 1), (1, 1)] [.slice none 0 0, .bool false] := ⟨Tryz.zeroValue144, _, Tryz.runUnderlying144, fun w => by kernel_rfl⟩
theorem S26 : Stru Tryz.prog 26 [(0, 1), (1, 1), (2, 1), (3, 1), (4, 1)] [.int .i64 0, .slice none 0 0, .bool false, .slice none 0 0, .slice none 0 0] := ⟨Tryz.zeroValue26, _, Tryz.runUnderlying26, fun w => by kernel_rfl⟩
theorem S31 : Stru Tryz.prog 31 [(0, 1), (1, 1)] [.slice none 0 0, .int .i64 0] := ⟨Tryz.zeroValue31, _, Tryz.runUnderlying31, fun w => by kernel_rfl⟩
theorem S37 : Stru Tryz.prog 37 [(0, 1), (1, 1), (2, 1), (3, 1), (4, 1)] [.int .i64 0, .slice none 0 0, .bool false, .slice none 0 0, .slice none 0 0] := ⟨Tryz.zeroValue37, _, Tryz.runUnderlying37, fun w => by kernel_rfl⟩
theorem S51 : Stru Tryz.prog 51 [(0, 1), (1, 1), (2, 1), (3, 1), (4, 1), (5, 1), (6, 1), (7, 1)] [.int .i64 0, .int .i64 0, .int .i64 0, .int .i64 0, .int .i64 0, .int .i64 0, .int .i64 0, .slice none 0 0] := ⟨Tryz.zeroValue51, _, Tryz.runUnderlying51, fun w => by kernel_rfl⟩
theorem S66 : Stru Tryz.prog 66 [(0, 1), (1, 1)] [.int .u32 0, .slice none 0 0] := ⟨Tryz.zeroValue66, _, Tryz.runUnderlying66, fun w => by kernel_rfl⟩
theorem S69 : Stru Tryz.prog 69 [(0, 1), (1, 1)] [.int .u32 0, .slice none 0 0] := ⟨Tryz.zeroValue69, _, Tryz.runUnderlying69, fun w => by kernel_rfl⟩
end Go.Sx

import Derived.Test.YtdjfaejkhpifhaaGreatDoorProg
import Derived.Test.YtdjfaejkhpifhaaGreatDoorLibA
import Derived.KernelRfl
set_option linter.unusedVariables false
set_option linter.unusedSimpArgs false
namespace Go.Sx
open Go.Proofs
theorem mixed : Tryz.prog.follows .mixedOrders = true := by kernel_rfl
theorem F101_0 : FieldOff Tryz.prog 101 0 0 := FieldOff.mk Tryz.runUnderlying101 rfl Tryz.sizeOf40 rfl rfl
theorem F101_1 : FieldOff Tryz.prog 101 1 1 := FieldOff.mk Tryz.runUnderlying101 rfl Tryz.sizeOf40 rfl rfl
theorem F101_2 : FieldOff Tryz.prog 101 2 2 := FieldOff.mk Tryz.runUnderlying101 rfl Tryz.sizeOf40 rfl rfl
theorem F101_3 : FieldOff Tryz.prog 101 3 3 := FieldOff.mk Tryz.runUnderlying101 rfl Tryz.sizeOf63 rfl rfl
theorem F104_0 : FieldOff Tryz.prog 104 0 0 := FieldOff.mk Tryz.runUnderlying104 rfl Tryz.sizeOf9 rfl rfl
theorem F104_1 : FieldOff Tryz.prog 104 1 1 := FieldOff.mk Tryz.runUnderlying104 rfl Tryz.sizeOf40 rfl rfl
theorem F104_2 : FieldOff Tryz.prog 104 2 2 := FieldOff.mk Tryz.runUnderlying104 rfl Tryz.sizeOf40 rfl rfl
theorem F104_3 : FieldOff Tryz.prog 104 3 3 := FieldOff.mk Tryz.runUnderlying104 rfl Tryz.sizeOf63 rfl rfl
theorem F108_0 : FieldOff Tryz.prog 108 0 0 := FieldOff.mk Tryz.runUnderlying108 rfl Tryz.sizeOf9 rfl rfl
theorem F108_1 : FieldOff Tryz.prog 108 1 1 := FieldOff.mk Tryz.runUnderlying108 rfl Tryz.sizeOf40 rfl rfl
theorem F108_2 : FieldOff Tryz.prog 108 2 2 := FieldOff.mk Tryz.runUnderlying108 rfl Tryz.sizeOf40 rfl rfl
theorem F108_3 : FieldOff Tryz.prog 108 3 3 := FieldOff.mk Tryz.runUnderlying108 rfl Tryz.sizeOf63 rfl rfl
theorem F117_0 : FieldOff Tryz.prog 117 0 0 := FieldOff.mk Tryz.runUnderlying117 rfl Tryz.sizeOf22 rfl rfl
theorem F117_1 : FieldOff Tryz.prog 117 1 1 := FieldOff.mk Tryz.runUnderlying117 rfl Tryz.sizeOf4 rfl rfl
theorem F26_0 : FieldOff Tryz.prog 26 0 0 := FieldOff.mk Tryz.runUnderlying26 rfl Tryz.sizeOf2 rfl rfl
theorem F26_1 : FieldOff Tryz.prog 26 1 1 := FieldOff.mk Tryz.runUnderlying26 rfl Tryz.sizeOf22 rfl rfl
theorem F26_2 : FieldOff Tryz.prog 26 2 2 := FieldOff.mk Tryz.runUnderlying26 rfl Tryz.sizeOf4 rfl rfl
theorem F26_3 : FieldOff Tryz.prog 26 3 3 := FieldOff.mk Tryz.runUnderlying26 rfl Tryz.sizeOf23 rfl rfl
theorem F26_4 : FieldOff Tryz.prog 26 4 4 := FieldOff.mk Tryz.runUnderlying26 rfl Tryz.sizeOf24 rfl rfl
theorem F31_0 : FieldOff Tryz.prog 31 0 0 := FieldOff.mk Tryz.runUnderlying31 rfl Tryz.sizeOf29 rfl rfl
theorem F31_1 : FieldOff Tryz.prog 31 1 1 := FieldOff.mk Tryz.runUnderlying31 rfl Tryz.sizeOf3 rfl rfl
theorem F45_0 : FieldOff Tryz.prog 45 0 0 := FieldOff.mk Tryz.runUnderlying45 rfl Tryz.sizeOf3 rfl rfl
theorem F45_1 : FieldOff Tryz.prog 45 1 1 := FieldOff.mk Tryz.runUnderlying45 rfl Tryz.sizeOf3 rfl rfl
theorem F45_2 : FieldOff Tryz.prog 45 2 2 := FieldOff.mk Tryz.runUnderlying45 rfl Tryz.sizeOf3 rfl rfl
theorem F45_3 : FieldOff Tryz.prog 45 3 3 := FieldOff.mk Tryz.runUnderlying45 rfl Tryz.sizeOf3 rfl rfl
theorem F45_4 : FieldOff Tryz.prog 45 4 4 := FieldOff.mk Tryz.runUnderlying45 rfl Tryz.sizeOf3 rfl rfl
theorem F45_5 : FieldOff Tryz.prog 45 5 5 := FieldOff.mk Tryz.runUnderlying45 rfl Tryz.sizeOf2 rfl rfl
theorem F45_6 : FieldOff Tryz.prog 45 6 6 := FieldOff.mk Tryz.runUnderlying45 rfl Tryz.sizeOf3 rfl rfl
theorem F45_7 : FieldOff Tryz.prog 45 7 7 := FieldOff.mk Tryz.runUnderlying45 rfl Tryz.sizeOf29 rfl rfl
theorem F57_0 : FieldOff Tryz.prog 57 0 0 := FieldOff.mk Tryz.runUnderlying57 rfl Tryz.sizeOf55 rfl rfl
theorem F57_1 : FieldOff Tryz.prog 57 1 1 := FieldOff.mk Tryz.runUnderlying57 rfl Tryz.sizeOf22 rfl rfl
theorem F63_0 : FieldOff Tryz.prog 63 0 0 := FieldOff.mk Tryz.runUnderlying63 rfl Tryz.sizeOf61 rfl rfl
theorem F65_0 : FieldOff Tryz.prog 65 0 0 := FieldOff.mk Tryz.runUnderlying65 rfl Tryz.sizeOf40 rfl rfl
theorem F65_1 : FieldOff Tryz.prog 65 1 1 := FieldOff.mk Tryz.runUnderlying65 rfl Tryz.sizeOf40 rfl rfl
theorem F65_2 : FieldOff Tryz.prog 65 2 2 := FieldOff.mk Tryz.runUnderlying65 rfl Tryz.sizeOf59 rfl rfl
theorem F65_3 : FieldOff Tryz.prog 65 3 3 := FieldOff.mk Tryz.runUnderlying65 rfl Tryz.sizeOf60 rfl rfl
theorem F65_4 : FieldOff Tryz.prog 65 4 4 := FieldOff.mk Tryz.runUnderlying65 rfl Tryz.sizeOf63 rfl rfl
theorem F80_0 : FieldOff Tryz.prog 80 0 0 := FieldOff.mk Tryz.runUnderlying80 rfl Tryz.sizeOf9 rfl rfl
theorem F80_1 : FieldOff Tryz.prog 80 1 1 := FieldOff.mk Tryz.runUnderlying80 rfl Tryz.sizeOf78 rfl rfl
theorem F80_2 : FieldOff Tryz.prog 80 2 2 := FieldOff.mk Tryz.runUnderlying80 rfl Tryz.sizeOf63 rfl rfl
theorem F84_0 : FieldOff Tryz.prog 84 0 0 := FieldOff.mk Tryz.runUnderlying84 rfl Tryz.sizeOf21 rfl rfl
theorem F84_1 : FieldOff Tryz.prog 84 1 1 := FieldOff.mk Tryz.runUnderlying84 rfl Tryz.sizeOf40 rfl rfl
theorem F84_2 : FieldOff Tryz.prog 84 2 2 := FieldOff.mk Tryz.runUnderlying84 rfl Tryz.sizeOf21 rfl rfl
theorem F84_3 : FieldOff Tryz.prog 84 3 3 := FieldOff.mk Tryz.runUnderlying84 rfl Tryz.sizeOf21 rfl rfl
theorem F84_4 : FieldOff Tryz.prog 84 4 4 := FieldOff.mk Tryz.runUnderlying84 rfl Tryz.sizeOf4 rfl rfl
theorem F84_5 : FieldOff Tryz.prog 84 5 5 := FieldOff.mk Tryz.runUnderlying84 rfl Tryz.sizeOf63 rfl rfl
theorem F92_0 : FieldOff Tryz.prog 92 0 0 := FieldOff.mk Tryz.runUnderlying92 rfl Tryz.sizeOf21 rfl rfl
theorem F92_1 : FieldOff Tryz.prog 92 1 1 := FieldOff.mk Tryz.runUnderlying92 rfl Tryz.sizeOf9 rfl rfl
theorem F92_2 : FieldOff Tryz.prog 92 2 2 := FieldOff.mk Tryz.runUnderlying92 rfl Tryz.sizeOf90 rfl rfl
theorem F92_3 : FieldOff Tryz.prog 92 3 3 := FieldOff.mk Tryz.runUnderlying92 rfl Tryz.sizeOf63 rfl rfl
theorem F98_0 : FieldOff Tryz.prog 98 0 0 := FieldOff.mk Tryz.runUnderlying98 rfl Tryz.sizeOf40 rfl rfl
theorem F98_1 : FieldOff Tryz.prog 98 1 1 := FieldOff.mk Tryz.runUnderlying98 rfl Tryz.sizeOf40 rfl rfl
theorem F98_2 : FieldOff Tryz.prog 98 2 2 := FieldOff.mk Tryz.runUnderlying98 rfl Tryz.sizeOf94 rfl rfl
theorem F98_3 : FieldOff Tryz.prog 98 3 3 := FieldOff.mk Tryz.runUnderlying98 rfl Tryz.sizeOf21 rfl rfl
theorem F98_4 : FieldOff Tryz.prog 98 4 4 := FieldOff.mk Tryz.runUnderlying98 rfl Tryz.sizeOf95 rfl rfl
theorem F98_5 : FieldOff Tryz.prog 98 5 5 := FieldOff.mk Tryz.runUnderlying98 rfl Tryz.sizeOf2 rfl rfl
theorem F98_6 : FieldOff Tryz.prog 98 6 6 := FieldOff.mk Tryz.runUnderlying98 rfl Tryz.sizeOf96 rfl rfl
theorem F98_7 : FieldOff Tryz.prog 98 7 7 := FieldOff.mk Tryz.runUnderlying98 rfl Tryz.sizeOf4 rfl rfl
theorem F98_8 : FieldOff Tryz.prog 98 8 8 := FieldOff.mk Tryz.runUnderlying98 rfl Tryz.sizeOf63 rfl rfl
theorem I101 : TI Tryz.prog 101 4 16 (.agg #[.int .i16 0, .int .i16 0, .int .i16 0, .map none]) := TI.mk_run Tryz.typeInfo101 rfl rfl rfl (by decide) rfl
theorem I104 : TI Tryz.prog 104 4 32 (.agg #[.string ⟨#[]⟩, .int .i16 0, .int .i16 0, .map none]) := TI.mk_run Tryz.typeInfo104 rfl rfl rfl (by decide) rfl
theorem I108 : TI Tryz.prog 108 4 32 (.agg #[.string ⟨#[]⟩, .int .i16 0, .int .i16 0, .map none]) := TI.mk_run Tryz.typeInfo108 rfl rfl rfl (by decide) rfl
theorem I5 : TI Tryz.prog 5 1 1 (.int .u8 0) := TI.mk_run Tryz.typeInfo5 rfl rfl rfl (by decide) rfl
theorem I55 : TI Tryz.prog 55 1 4 (.int .u32 0) := TI.mk_run Tryz.typeInfo55 rfl rfl rfl (by decide) rfl
theorem I57 : TI Tryz.prog 57 2 32 (.agg #[.int .u32 0, .slice none 0 0]) := TI.mk_run Tryz.typeInfo57 rfl rfl rfl (by decide) rfl
theorem I80 : TI Tryz.prog 80 3 48 (.agg #[.string ⟨#[]⟩, .slice none 0 0, .map none]) := TI.mk_run Tryz.typeInfo80 rfl rfl rfl (by decide) rfl
theorem I84 : TI Tryz.prog 84 6 32 (.agg #[.int .i32 0, .int .i16 0, .int .i32 0, .int .i32 0, .bool false, .map none]) := TI.mk_run Tryz.typeInfo84 rfl rfl rfl (by decide) rfl
theorem I92 : TI Tryz.prog 92 4 40 (.agg #[.int .i32 0, .string ⟨#[]⟩, .int .u16 0, .map none]) := TI.mk_run Tryz.typeInfo92 rfl rfl rfl (by decide) rfl
theorem L22 : Sli Tryz.prog 22 5 1 [.int .u8 0] := ⟨Tryz.runUnderlying22, Tryz.sizeOf5, ⟨_, Tryz.zeroValue5, rfl⟩, rfl, rfl⟩
theorem L24 : Sli Tryz.prog 24 57 2 [.int .u32 0, .slice none 0 0] := ⟨Tryz.runUnderlying24, Tryz.sizeOf57, ⟨_, Tryz.zeroValue57, rfl⟩, rfl, rfl⟩
theorem L29 : Sli Tryz.prog 29 45 8 [.int .i64 0, .int .i64 0, .int .i64 0, .int .i64 0, .int .i64 0, .int .i64 0, .int .i64 0, .slice none 0 0] := ⟨Tryz.runUnderlying29, Tryz.sizeOf45, ⟨_, Tryz.zeroValue45, rfl⟩, rfl, rfl⟩
theorem L88 : Sli Tryz.prog 88 55 1 [.int .u32 0] := ⟨Tryz.runUnderlying88, Tryz.sizeOf55, ⟨_, Tryz.zeroValue55, rfl⟩, rfl, rfl⟩
theorem S117 : Stru Tryz.prog 117 [(0, 1), (1, 1)] [.slice none 0 0, .bool false] := ⟨Tryz.zeroValue117, _, Tryz.runUnderlying117, fun w => by kernel_rfl⟩
theorem S26 : Stru Tryz.prog 26 [(0, 1), (1, 1), (2, 1), (3, 1), (4, 1)] [.int .i64 0, .slice none 0 0, .bool false, .slice none 0 0, .slice none 0 0] := ⟨Tryz.zeroValue26, _, Tryz.runUnderlying26, fun w => by kernel_rfl⟩
theorem S31 : Stru Tryz.prog 31 [(0, 1), (1, 1)] [.slice none 0 0, .int .i64 0] := ⟨Tryz.zeroValue31, _, Tryz.runUnderlying31, fun w => by kernel_rfl⟩
theorem S45 : Stru Tryz.prog 45 [(0, 1), (1, 1), (2, 1), (3, 1), (4, 1), (5, 1), (6, 1), (7, 1)] [.int .i64 0, .int .i64 0, .int .i64 0, .int .i64 0, .int .i64 0, .int .i64 0, .int .i64 0, .slice none 0 0] := ⟨Tryz.zeroValue45, _, Tryz.runUnderlying45, fun w => by kernel_rfl⟩
theorem S57 : Stru Tryz.prog 57 [(0, 1), (1, 1)] [.int .u32 0, .slice none 0 0] := ⟨Tryz.zeroValue57, _, Tryz.runUnderlying57, fun w => by kernel_rfl⟩
end Go.Sx

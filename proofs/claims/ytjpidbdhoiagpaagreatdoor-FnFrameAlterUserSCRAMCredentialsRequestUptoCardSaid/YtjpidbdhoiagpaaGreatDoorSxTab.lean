import Derived.Test.YtjpidbdhoiagpaaGreatDoorProg
import Derived.Test.YtjpidbdhoiagpaaGreatDoorLibA
import Derived.KernelRfl
set_option linter.unusedVariables false
set_option linter.unusedSimpArgs false
namespace Go.Sx
open Go.Proofs
theorem mixed : Tryz.prog.follows .mixedOrders = true := by kernel_rfl
theorem F102_0 : FieldOff Tryz.prog 102 0 0 := FieldOff.mk Tryz.runUnderlying102 rfl Tryz.sizeOf45 rfl rfl
theorem F102_1 : FieldOff Tryz.prog 102 1 1 := FieldOff.mk Tryz.runUnderlying102 rfl Tryz.sizeOf45 rfl rfl
theorem F102_2 : FieldOff Tryz.prog 102 2 2 := FieldOff.mk Tryz.runUnderlying102 rfl Tryz.sizeOf75 rfl rfl
theorem F104_0 : FieldOff Tryz.prog 104 0 0 := FieldOff.mk Tryz.runUnderlying104 rfl Tryz.sizeOf45 rfl rfl
theorem F104_1 : FieldOff Tryz.prog 104 1 1 := FieldOff.mk Tryz.runUnderlying104 rfl Tryz.sizeOf98 rfl rfl
theorem F104_2 : FieldOff Tryz.prog 104 2 2 := FieldOff.mk Tryz.runUnderlying104 rfl Tryz.sizeOf21 rfl rfl
theorem F104_3 : FieldOff Tryz.prog 104 3 3 := FieldOff.mk Tryz.runUnderlying104 rfl Tryz.sizeOf21 rfl rfl
theorem F104_4 : FieldOff Tryz.prog 104 4 4 := FieldOff.mk Tryz.runUnderlying104 rfl Tryz.sizeOf99 rfl rfl
theorem F104_5 : FieldOff Tryz.prog 104 5 20 := FieldOff.mk Tryz.runUnderlying104 rfl Tryz.sizeOf100 rfl rfl
theorem F104_6 : FieldOff Tryz.prog 104 6 21 := FieldOff.mk Tryz.runUnderlying104 rfl Tryz.sizeOf102 rfl rfl
theorem F104_7 : FieldOff Tryz.prog 104 7 24 := FieldOff.mk Tryz.runUnderlying104 rfl Tryz.sizeOf75 rfl rfl
theorem F107_0 : FieldOff Tryz.prog 107 0 0 := FieldOff.mk Tryz.runUnderlying107 rfl Tryz.sizeOf45 rfl rfl
theorem F107_1 : FieldOff Tryz.prog 107 1 1 := FieldOff.mk Tryz.runUnderlying107 rfl Tryz.sizeOf99 rfl rfl
theorem F107_2 : FieldOff Tryz.prog 107 2 17 := FieldOff.mk Tryz.runUnderlying107 rfl Tryz.sizeOf21 rfl rfl
theorem F107_3 : FieldOff Tryz.prog 107 3 18 := FieldOff.mk Tryz.runUnderlying107 rfl Tryz.sizeOf4 rfl rfl
theorem F107_4 : FieldOff Tryz.prog 107 4 19 := FieldOff.mk Tryz.runUnderlying107 rfl Tryz.sizeOf105 rfl rfl
theorem F107_5 : FieldOff Tryz.prog 107 5 20 := FieldOff.mk Tryz.runUnderlying107 rfl Tryz.sizeOf24 rfl rfl
theorem F107_6 : FieldOff Tryz.prog 107 6 21 := FieldOff.mk Tryz.runUnderlying107 rfl Tryz.sizeOf75 rfl rfl
theorem F110_0 : FieldOff Tryz.prog 110 0 0 := FieldOff.mk Tryz.runUnderlying110 rfl Tryz.sizeOf45 rfl rfl
theorem F110_1 : FieldOff Tryz.prog 110 1 1 := FieldOff.mk Tryz.runUnderlying110 rfl Tryz.sizeOf108 rfl rfl
theorem F110_2 : FieldOff Tryz.prog 110 2 2 := FieldOff.mk Tryz.runUnderlying110 rfl Tryz.sizeOf4 rfl rfl
theorem F110_3 : FieldOff Tryz.prog 110 3 3 := FieldOff.mk Tryz.runUnderlying110 rfl Tryz.sizeOf4 rfl rfl
theorem F110_4 : FieldOff Tryz.prog 110 4 4 := FieldOff.mk Tryz.runUnderlying110 rfl Tryz.sizeOf75 rfl rfl
theorem F118_0 : FieldOff Tryz.prog 118 0 0 := FieldOff.mk Tryz.runUnderlying118 rfl Tryz.sizeOf24 rfl rfl
theorem F118_1 : FieldOff Tryz.prog 118 1 1 := FieldOff.mk Tryz.runUnderlying118 rfl Tryz.sizeOf4 rfl rfl
theorem F124_0 : FieldOff Tryz.prog 124 0 0 := FieldOff.mk Tryz.runUnderlying124 rfl Tryz.sizeOf9 rfl rfl
theorem F124_1 : FieldOff Tryz.prog 124 1 1 := FieldOff.mk Tryz.runUnderlying124 rfl Tryz.sizeOf105 rfl rfl
theorem F124_2 : FieldOff Tryz.prog 124 2 2 := FieldOff.mk Tryz.runUnderlying124 rfl Tryz.sizeOf75 rfl rfl
theorem F131_0 : FieldOff Tryz.prog 131 0 0 := FieldOff.mk Tryz.runUnderlying131 rfl Tryz.sizeOf9 rfl rfl
theorem F131_1 : FieldOff Tryz.prog 131 1 1 := FieldOff.mk Tryz.runUnderlying131 rfl Tryz.sizeOf105 rfl rfl
theorem F131_2 : FieldOff Tryz.prog 131 2 2 := FieldOff.mk Tryz.runUnderlying131 rfl Tryz.sizeOf21 rfl rfl
theorem F131_3 : FieldOff Tryz.prog 131 3 3 := FieldOff.mk Tryz.runUnderlying131 rfl Tryz.sizeOf24 rfl rfl
theorem F131_4 : FieldOff Tryz.prog 131 4 4 := FieldOff.mk Tryz.runUnderlying131 rfl Tryz.sizeOf24 rfl rfl
theorem F131_5 : FieldOff Tryz.prog 131 5 5 := FieldOff.mk Tryz.runUnderlying131 rfl Tryz.sizeOf75 rfl rfl
theorem F135_0 : FieldOff Tryz.prog 135 0 0 := FieldOff.mk Tryz.runUnderlying135 rfl Tryz.sizeOf98 rfl rfl
theorem F138_0 : FieldOff Tryz.prog 138 0 0 := FieldOff.mk Tryz.runUnderlying138 rfl Tryz.sizeOf136 rfl rfl
theorem F145_0 : FieldOff Tryz.prog 145 0 0 := FieldOff.mk Tryz.runUnderlying145 rfl Tryz.sizeOf2 rfl rfl
theorem F145_1 : FieldOff Tryz.prog 145 1 1 := FieldOff.mk Tryz.runUnderlying145 rfl Tryz.sizeOf45 rfl rfl
theorem F145_2 : FieldOff Tryz.prog 145 2 2 := FieldOff.mk Tryz.runUnderlying145 rfl Tryz.sizeOf4 rfl rfl
theorem F145_3 : FieldOff Tryz.prog 145 3 3 := FieldOff.mk Tryz.runUnderlying145 rfl Tryz.sizeOf143 rfl rfl
theorem F145_4 : FieldOff Tryz.prog 145 4 4 := FieldOff.mk Tryz.runUnderlying145 rfl Tryz.sizeOf21 rfl rfl
theorem F145_5 : FieldOff Tryz.prog 145 5 5 := FieldOff.mk Tryz.runUnderlying145 rfl Tryz.sizeOf105 rfl rfl
theorem F145_6 : FieldOff Tryz.prog 145 6 6 := FieldOff.mk Tryz.runUnderlying145 rfl Tryz.sizeOf75 rfl rfl
theorem F150_0 : FieldOff Tryz.prog 150 0 0 := FieldOff.mk Tryz.runUnderlying150 rfl Tryz.sizeOf9 rfl rfl
theorem F150_1 : FieldOff Tryz.prog 150 1 1 := FieldOff.mk Tryz.runUnderlying150 rfl Tryz.sizeOf148 rfl rfl
theorem F150_2 : FieldOff Tryz.prog 150 2 2 := FieldOff.mk Tryz.runUnderlying150 rfl Tryz.sizeOf75 rfl rfl
theorem F157_0 : FieldOff Tryz.prog 157 0 0 := FieldOff.mk Tryz.runUnderlying157 rfl Tryz.sizeOf9 rfl rfl
theorem F157_1 : FieldOff Tryz.prog 157 1 1 := FieldOff.mk Tryz.runUnderlying157 rfl Tryz.sizeOf9 rfl rfl
theorem F157_2 : FieldOff Tryz.prog 157 2 2 := FieldOff.mk Tryz.runUnderlying157 rfl Tryz.sizeOf155 rfl rfl
theorem F157_3 : FieldOff Tryz.prog 157 3 3 := FieldOff.mk Tryz.runUnderlying157 rfl Tryz.sizeOf75 rfl rfl
theorem F163_0 : FieldOff Tryz.prog 163 0 0 := FieldOff.mk Tryz.runUnderlying163 rfl Tryz.sizeOf160 rfl rfl
theorem F163_1 : FieldOff Tryz.prog 163 1 1 := FieldOff.mk Tryz.runUnderlying163 rfl Tryz.sizeOf9 rfl rfl
theorem F163_2 : FieldOff Tryz.prog 163 2 2 := FieldOff.mk Tryz.runUnderlying163 rfl Tryz.sizeOf161 rfl rfl
theorem F163_3 : FieldOff Tryz.prog 163 3 3 := FieldOff.mk Tryz.runUnderlying163 rfl Tryz.sizeOf75 rfl rfl
theorem F23_0 : FieldOff Tryz.prog 23 0 0 := FieldOff.mk Tryz.runUnderlying23 rfl Tryz.sizeOf4 rfl rfl
theorem F23_1 : FieldOff Tryz.prog 23 1 1 := FieldOff.mk Tryz.runUnderlying23 rfl Tryz.sizeOf9 rfl rfl
theorem F28_0 : FieldOff Tryz.prog 28 0 0 := FieldOff.mk Tryz.runUnderlying28 rfl Tryz.sizeOf2 rfl rfl
theorem F28_1 : FieldOff Tryz.prog 28 1 1 := FieldOff.mk Tryz.runUnderlying28 rfl Tryz.sizeOf24 rfl rfl
theorem F28_2 : FieldOff Tryz.prog 28 2 2 := FieldOff.mk Tryz.runUnderlying28 rfl Tryz.sizeOf4 rfl rfl
theorem F28_3 : FieldOff Tryz.prog 28 3 3 := FieldOff.mk Tryz.runUnderlying28 rfl Tryz.sizeOf25 rfl rfl
theorem F28_4 : FieldOff Tryz.prog 28 4 4 := FieldOff.mk Tryz.runUnderlying28 rfl Tryz.sizeOf26 rfl rfl
theorem F34_0 : FieldOff Tryz.prog 34 0 0 := FieldOff.mk Tryz.runUnderlying34 rfl Tryz.sizeOf32 rfl rfl
theorem F34_1 : FieldOff Tryz.prog 34 1 1 := FieldOff.mk Tryz.runUnderlying34 rfl Tryz.sizeOf3 rfl rfl
theorem F51_0 : FieldOff Tryz.prog 51 0 0 := FieldOff.mk Tryz.runUnderlying51 rfl Tryz.sizeOf3 rfl rfl
theorem F51_1 : FieldOff Tryz.prog 51 1 1 := FieldOff.mk Tryz.runUnderlying51 rfl Tryz.sizeOf3 rfl rfl
theorem F51_2 : FieldOff Tryz.prog 51 2 2 := FieldOff.mk Tryz.runUnderlying51 rfl Tryz.sizeOf3 rfl rfl
theorem F51_3 : FieldOff Tryz.prog 51 3 3 := FieldOff.mk Tryz.runUnderlying51 rfl Tryz.sizeOf3 rfl rfl
theorem F51_4 : FieldOff Tryz.prog 51 4 4 := FieldOff.mk Tryz.runUnderlying51 rfl Tryz.sizeOf3 rfl rfl
theorem F51_5 : FieldOff Tryz.prog 51 5 5 := FieldOff.mk Tryz.runUnderlying51 rfl Tryz.sizeOf2 rfl rfl
theorem F51_6 : FieldOff Tryz.prog 51 6 6 := FieldOff.mk Tryz.runUnderlying51 rfl Tryz.sizeOf3 rfl rfl
theorem F51_7 : FieldOff Tryz.prog 51 7 7 := FieldOff.mk Tryz.runUnderlying51 rfl Tryz.sizeOf32 rfl rfl
theorem F69_0 : FieldOff Tryz.prog 69 0 0 := FieldOff.mk Tryz.runUnderlying69 rfl Tryz.sizeOf67 rfl rfl
theorem F69_1 : FieldOff Tryz.prog 69 1 1 := FieldOff.mk Tryz.runUnderlying69 rfl Tryz.sizeOf24 rfl rfl
theorem F75_0 : FieldOff Tryz.prog 75 0 0 := FieldOff.mk Tryz.runUnderlying75 rfl Tryz.sizeOf73 rfl rfl
theorem F77_0 : FieldOff Tryz.prog 77 0 0 := FieldOff.mk Tryz.runUnderlying77 rfl Tryz.sizeOf45 rfl rfl
theorem F77_1 : FieldOff Tryz.prog 77 1 1 := FieldOff.mk Tryz.runUnderlying77 rfl Tryz.sizeOf71 rfl rfl
theorem F77_2 : FieldOff Tryz.prog 77 2 2 := FieldOff.mk Tryz.runUnderlying77 rfl Tryz.sizeOf72 rfl rfl
theorem F77_3 : FieldOff Tryz.prog 77 3 3 := FieldOff.mk Tryz.runUnderlying77 rfl Tryz.sizeOf75 rfl rfl
theorem F97_0 : FieldOff Tryz.prog 97 0 0 := FieldOff.mk Tryz.runUnderlying97 rfl Tryz.sizeOf45 rfl rfl
theorem F97_1 : FieldOff Tryz.prog 97 1 1 := FieldOff.mk Tryz.runUnderlying97 rfl Tryz.sizeOf95 rfl rfl
theorem F97_2 : FieldOff Tryz.prog 97 2 2 := FieldOff.mk Tryz.runUnderlying97 rfl Tryz.sizeOf75 rfl rfl
theorem I124 : TI Tryz.prog 124 3 32 (.agg #[.string ⟨#[]⟩, .int .i8 0, .map none]) := TI.mk_run Tryz.typeInfo124 rfl rfl rfl (by decide) rfl
theorem I131 : TI Tryz.prog 131 6 80 (.agg #[.string ⟨#[]⟩, .int .i8 0, .int .i32 0, .slice none 0 0, .slice none 0 0, .map none]) := TI.mk_run Tryz.typeInfo131 rfl rfl rfl (by decide) rfl
theorem I145 : TI Tryz.prog 145 7 56 (.agg #[.int .i64 0, .int .i16 0, .bool false, .slice none 0 0, .int .i32 0, .int .i8 0, .map none]) := TI.mk_run Tryz.typeInfo145 rfl rfl rfl (by decide) rfl
theorem I150 : TI Tryz.prog 150 3 48 (.agg #[.string ⟨#[]⟩, .slice none 0 0, .map none]) := TI.mk_run Tryz.typeInfo150 rfl rfl rfl (by decide) rfl
theorem I157 : TI Tryz.prog 157 4 48 (.agg #[.string ⟨#[]⟩, .string ⟨#[]⟩, .int .u16 0, .map none]) := TI.mk_run Tryz.typeInfo157 rfl rfl rfl (by decide) rfl
theorem I163 : TI Tryz.prog 163 4 56 (.agg #[.int .i8 0, .string ⟨#[]⟩, .slice none 0 0, .map none]) := TI.mk_run Tryz.typeInfo163 rfl rfl rfl (by decide) rfl
theorem I21 : TI Tryz.prog 21 1 4 (.int .i32 0) := TI.mk_run Tryz.typeInfo21 rfl rfl rfl (by decide) rfl
theorem I5 : TI Tryz.prog 5 1 1 (.int .u8 0) := TI.mk_run Tryz.typeInfo5 rfl rfl rfl (by decide) rfl
theorem I67 : TI Tryz.prog 67 1 4 (.int .u32 0) := TI.mk_run Tryz.typeInfo67 rfl rfl rfl (by decide) rfl
theorem I69 : TI Tryz.prog 69 2 32 (.agg #[.int .u32 0, .slice none 0 0]) := TI.mk_run Tryz.typeInfo69 rfl rfl rfl (by decide) rfl
theorem I9 : TI Tryz.prog 9 1 16 (.string ⟨#[]⟩) := TI.mk_run Tryz.typeInfo9 rfl rfl rfl (by decide) rfl
theorem L133 : Sli Tryz.prog 133 92 1 [.nilIface] := ⟨Tryz.runUnderlying133, Tryz.sizeOf92, ⟨_, Tryz.zeroValue92, rfl⟩, rfl, rfl⟩
theorem L161 : Sli Tryz.prog 161 9 1 [.string ⟨#[]⟩] := ⟨Tryz.runUnderlying161, Tryz.sizeOf9, ⟨_, Tryz.zeroValue9, rfl⟩, rfl, rfl⟩
theorem L200 : Sli Tryz.prog 200 67 1 [.int .u32 0] := ⟨Tryz.runUnderlying200, Tryz.sizeOf67, ⟨_, Tryz.zeroValue67, rfl⟩, rfl, rfl⟩
theorem L24 : Sli Tryz.prog 24 5 1 [.int .u8 0] := ⟨Tryz.runUnderlying24, Tryz.sizeOf5, ⟨_, Tryz.zeroValue5, rfl⟩, rfl, rfl⟩
theorem L26 : Sli Tryz.prog 26 69 2 [.int .u32 0, .slice none 0 0] := ⟨Tryz.runUnderlying26, Tryz.sizeOf69, ⟨_, Tryz.zeroValue69, rfl⟩, rfl, rfl⟩
theorem L32 : Sli Tryz.prog 32 51 8 [.int .i64 0, .int .i64 0, .int .i64 0, .int .i64 0, .int .i64 0, .int .i64 0, .int .i64 0, .slice none 0 0] := ⟨Tryz.runUnderlying32, Tryz.sizeOf51, ⟨_, Tryz.zeroValue51, rfl⟩, rfl, rfl⟩
theorem S118 : Stru Tryz.prog 118 [(0, 1), (1, 1)] [.slice none 0 0, .bool false] := ⟨Tryz.zeroValue118, _, Tryz.runUnderlying118, fun w => by kernel_rfl⟩
theorem S138 : Stru Tryz.prog 138 [(0, 1)] [.nilFunc] := ⟨Tryz.zeroValue138, _, Tryz.runUnderlying138, fun w => by kernel_rfl⟩
theorem S28 : Stru Tryz.prog 28 [(0, 1), (1, 1), (2, 1), (3, 1), (4, 1)] [.int .i64 0, .slice none 0 0, .bool false, .slice none 0 0, .slice none 0 0] := ⟨Tryz.zeroValue28, _, Tryz.runUnderlying28, fun w => by kernel_rfl⟩
theorem S34 : Stru Tryz.prog 34 [(0, 1), (1, 1)] [.slice none 0 0, .int .i64 0] := ⟨Tryz.zeroValue34, _, Tryz.runUnderlying34, fun w => by kernel_rfl⟩
theorem S51 : Stru Tryz.prog 51 [(0, 1), (1, 1), (2, 1), (3, 1), (4, 1), (5, 1), (6, 1), (7, 1)] [.int .i64 0, .int .i64 0, .int .i64 0, .int .i64 0, .int .i64 0, .int .i64 0, .int .i64 0, .slice none 0 0] := ⟨Tryz.zeroValue51, _, Tryz.runUnderlying51, fun w => by kernel_rfl⟩
theorem S69 : Stru Tryz.prog 69 [(0, 1), (1, 1)] [.int .u32 0, .slice none 0 0] := ⟨Tryz.zeroValue69, _, Tryz.runUnderlying69, fun w => by kernel_rfl⟩
end Go.Sx

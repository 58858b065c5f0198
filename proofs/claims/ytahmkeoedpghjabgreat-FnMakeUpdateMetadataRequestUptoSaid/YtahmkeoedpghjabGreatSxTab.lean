import Derived.Test.YtahmkeoedpghjabGreatProg
import Derived.Test.YtahmkeoedpghjabGreatSxNum
import Derived.KernelRfl
set_option linter.unusedVariables false
set_option linter.unusedSimpArgs false
namespace Go.Sx
open Go.Proofs
theorem mixed : Tryz.prog.follows .mixedOrders = true := by kernel_rfl
theorem C39_0 : FieldCell Tryz.prog 39 0 0 := FieldCell.mk Tryz.runUnderlying39 rfl Tryz.isAgg2 rfl
theorem C39_1 : FieldCell Tryz.prog 39 1 1 := FieldCell.mk Tryz.runUnderlying39 rfl Tryz.isAgg22 rfl
theorem C39_2 : FieldCell Tryz.prog 39 2 2 := FieldCell.mk Tryz.runUnderlying39 rfl Tryz.isAgg4 rfl
theorem C39_3 : FieldCell Tryz.prog 39 3 3 := FieldCell.mk Tryz.runUnderlying39 rfl Tryz.isAgg36 rfl
theorem F102_0 : FieldOff Tryz.prog 102 0 0 := FieldOff.mk Tryz.runUnderlying102 rfl Tryz.sizeOf9 rfl rfl
theorem F102_1 : FieldOff Tryz.prog 102 1 1 := FieldOff.mk Tryz.runUnderlying102 rfl Tryz.sizeOf100 rfl rfl
theorem F102_2 : FieldOff Tryz.prog 102 2 2 := FieldOff.mk Tryz.runUnderlying102 rfl Tryz.sizeOf45 rfl rfl
theorem F102_3 : FieldOff Tryz.prog 102 3 3 := FieldOff.mk Tryz.runUnderlying102 rfl Tryz.sizeOf56 rfl rfl
theorem F112_0 : FieldOff Tryz.prog 112 0 0 := FieldOff.mk Tryz.runUnderlying112 rfl Tryz.sizeOf21 rfl rfl
theorem F112_1 : FieldOff Tryz.prog 112 1 1 := FieldOff.mk Tryz.runUnderlying112 rfl Tryz.sizeOf2 rfl rfl
theorem F112_2 : FieldOff Tryz.prog 112 2 2 := FieldOff.mk Tryz.runUnderlying112 rfl Tryz.sizeOf21 rfl rfl
theorem F112_3 : FieldOff Tryz.prog 112 3 3 := FieldOff.mk Tryz.runUnderlying112 rfl Tryz.sizeOf110 rfl rfl
theorem F112_4 : FieldOff Tryz.prog 112 4 4 := FieldOff.mk Tryz.runUnderlying112 rfl Tryz.sizeOf45 rfl rfl
theorem F112_5 : FieldOff Tryz.prog 112 5 5 := FieldOff.mk Tryz.runUnderlying112 rfl Tryz.sizeOf56 rfl rfl
theorem F122_0 : FieldOff Tryz.prog 122 0 0 := FieldOff.mk Tryz.runUnderlying122 rfl Tryz.sizeOf9 rfl rfl
theorem F122_1 : FieldOff Tryz.prog 122 1 1 := FieldOff.mk Tryz.runUnderlying122 rfl Tryz.sizeOf119 rfl rfl
theorem F122_2 : FieldOff Tryz.prog 122 2 17 := FieldOff.mk Tryz.runUnderlying122 rfl Tryz.sizeOf120 rfl rfl
theorem F122_3 : FieldOff Tryz.prog 122 3 18 := FieldOff.mk Tryz.runUnderlying122 rfl Tryz.sizeOf56 rfl rfl
theorem F125_0 : FieldOff Tryz.prog 125 0 0 := FieldOff.mk Tryz.runUnderlying125 rfl Tryz.sizeOf21 rfl rfl
theorem F125_1 : FieldOff Tryz.prog 125 1 1 := FieldOff.mk Tryz.runUnderlying125 rfl Tryz.sizeOf2 rfl rfl
theorem F125_2 : FieldOff Tryz.prog 125 2 2 := FieldOff.mk Tryz.runUnderlying125 rfl Tryz.sizeOf21 rfl rfl
theorem F125_3 : FieldOff Tryz.prog 125 3 3 := FieldOff.mk Tryz.runUnderlying125 rfl Tryz.sizeOf110 rfl rfl
theorem F125_4 : FieldOff Tryz.prog 125 4 4 := FieldOff.mk Tryz.runUnderlying125 rfl Tryz.sizeOf45 rfl rfl
theorem F125_5 : FieldOff Tryz.prog 125 5 5 := FieldOff.mk Tryz.runUnderlying125 rfl Tryz.sizeOf56 rfl rfl
theorem F139_0 : FieldOff Tryz.prog 139 0 0 := FieldOff.mk Tryz.runUnderlying139 rfl Tryz.sizeOf9 rfl rfl
theorem F139_1 : FieldOff Tryz.prog 139 1 1 := FieldOff.mk Tryz.runUnderlying139 rfl Tryz.sizeOf137 rfl rfl
theorem F139_2 : FieldOff Tryz.prog 139 2 2 := FieldOff.mk Tryz.runUnderlying139 rfl Tryz.sizeOf56 rfl rfl
theorem F144_0 : FieldOff Tryz.prog 144 0 0 := FieldOff.mk Tryz.runUnderlying144 rfl Tryz.sizeOf9 rfl rfl
theorem F144_1 : FieldOff Tryz.prog 144 1 1 := FieldOff.mk Tryz.runUnderlying144 rfl Tryz.sizeOf141 rfl rfl
theorem F144_2 : FieldOff Tryz.prog 144 2 2 := FieldOff.mk Tryz.runUnderlying144 rfl Tryz.sizeOf142 rfl rfl
theorem F144_3 : FieldOff Tryz.prog 144 3 3 := FieldOff.mk Tryz.runUnderlying144 rfl Tryz.sizeOf110 rfl rfl
theorem F144_4 : FieldOff Tryz.prog 144 4 4 := FieldOff.mk Tryz.runUnderlying144 rfl Tryz.sizeOf142 rfl rfl
theorem F144_5 : FieldOff Tryz.prog 144 5 5 := FieldOff.mk Tryz.runUnderlying144 rfl Tryz.sizeOf142 rfl rfl
theorem F144_6 : FieldOff Tryz.prog 144 6 6 := FieldOff.mk Tryz.runUnderlying144 rfl Tryz.sizeOf56 rfl rfl
theorem F148_0 : FieldOff Tryz.prog 148 0 0 := FieldOff.mk Tryz.runUnderlying148 rfl Tryz.sizeOf144 rfl rfl
theorem F148_1 : FieldOff Tryz.prog 148 1 7 := FieldOff.mk Tryz.runUnderlying148 rfl Tryz.sizeOf144 rfl rfl
theorem F148_2 : FieldOff Tryz.prog 148 2 14 := FieldOff.mk Tryz.runUnderlying148 rfl Tryz.sizeOf56 rfl rfl
theorem F151_0 : FieldOff Tryz.prog 151 0 0 := FieldOff.mk Tryz.runUnderlying151 rfl Tryz.sizeOf9 rfl rfl
theorem F151_1 : FieldOff Tryz.prog 151 1 1 := FieldOff.mk Tryz.runUnderlying151 rfl Tryz.sizeOf21 rfl rfl
theorem F151_2 : FieldOff Tryz.prog 151 2 2 := FieldOff.mk Tryz.runUnderlying151 rfl Tryz.sizeOf21 rfl rfl
theorem F151_3 : FieldOff Tryz.prog 151 3 3 := FieldOff.mk Tryz.runUnderlying151 rfl Tryz.sizeOf21 rfl rfl
theorem F151_4 : FieldOff Tryz.prog 151 4 4 := FieldOff.mk Tryz.runUnderlying151 rfl Tryz.sizeOf21 rfl rfl
theorem F151_5 : FieldOff Tryz.prog 151 5 5 := FieldOff.mk Tryz.runUnderlying151 rfl Tryz.sizeOf149 rfl rfl
theorem F151_6 : FieldOff Tryz.prog 151 6 6 := FieldOff.mk Tryz.runUnderlying151 rfl Tryz.sizeOf21 rfl rfl
theorem F151_7 : FieldOff Tryz.prog 151 7 7 := FieldOff.mk Tryz.runUnderlying151 rfl Tryz.sizeOf149 rfl rfl
theorem F151_8 : FieldOff Tryz.prog 151 8 8 := FieldOff.mk Tryz.runUnderlying151 rfl Tryz.sizeOf149 rfl rfl
theorem F151_9 : FieldOff Tryz.prog 151 9 9 := FieldOff.mk Tryz.runUnderlying151 rfl Tryz.sizeOf56 rfl rfl
theorem F154_0 : FieldOff Tryz.prog 154 0 0 := FieldOff.mk Tryz.runUnderlying154 rfl Tryz.sizeOf9 rfl rfl
theorem F154_1 : FieldOff Tryz.prog 154 1 1 := FieldOff.mk Tryz.runUnderlying154 rfl Tryz.sizeOf119 rfl rfl
theorem F154_2 : FieldOff Tryz.prog 154 2 17 := FieldOff.mk Tryz.runUnderlying154 rfl Tryz.sizeOf81 rfl rfl
theorem F154_3 : FieldOff Tryz.prog 154 3 18 := FieldOff.mk Tryz.runUnderlying154 rfl Tryz.sizeOf56 rfl rfl
theorem F158_0 : FieldOff Tryz.prog 158 0 0 := FieldOff.mk Tryz.runUnderlying158 rfl Tryz.sizeOf21 rfl rfl
theorem F158_1 : FieldOff Tryz.prog 158 1 1 := FieldOff.mk Tryz.runUnderlying158 rfl Tryz.sizeOf9 rfl rfl
theorem F158_2 : FieldOff Tryz.prog 158 2 2 := FieldOff.mk Tryz.runUnderlying158 rfl Tryz.sizeOf21 rfl rfl
theorem F158_3 : FieldOff Tryz.prog 158 3 3 := FieldOff.mk Tryz.runUnderlying158 rfl Tryz.sizeOf156 rfl rfl
theorem F158_4 : FieldOff Tryz.prog 158 4 4 := FieldOff.mk Tryz.runUnderlying158 rfl Tryz.sizeOf110 rfl rfl
theorem F158_5 : FieldOff Tryz.prog 158 5 5 := FieldOff.mk Tryz.runUnderlying158 rfl Tryz.sizeOf56 rfl rfl
theorem F166_0 : FieldOff Tryz.prog 166 0 0 := FieldOff.mk Tryz.runUnderlying166 rfl Tryz.sizeOf21 rfl rfl
theorem F166_1 : FieldOff Tryz.prog 166 1 1 := FieldOff.mk Tryz.runUnderlying166 rfl Tryz.sizeOf9 rfl rfl
theorem F166_2 : FieldOff Tryz.prog 166 2 2 := FieldOff.mk Tryz.runUnderlying166 rfl Tryz.sizeOf9 rfl rfl
theorem F166_3 : FieldOff Tryz.prog 166 3 3 := FieldOff.mk Tryz.runUnderlying166 rfl Tryz.sizeOf45 rfl rfl
theorem F166_4 : FieldOff Tryz.prog 166 4 4 := FieldOff.mk Tryz.runUnderlying166 rfl Tryz.sizeOf56 rfl rfl
theorem F26_0 : FieldOff Tryz.prog 26 0 0 := FieldOff.mk Tryz.runUnderlying26 rfl Tryz.sizeOf2 rfl rfl
theorem F26_1 : FieldOff Tryz.prog 26 1 1 := FieldOff.mk Tryz.runUnderlying26 rfl Tryz.sizeOf22 rfl rfl
theorem F26_2 : FieldOff Tryz.prog 26 2 2 := FieldOff.mk Tryz.runUnderlying26 rfl Tryz.sizeOf4 rfl rfl
theorem F26_3 : FieldOff Tryz.prog 26 3 3 := FieldOff.mk Tryz.runUnderlying26 rfl Tryz.sizeOf23 rfl rfl
theorem F26_4 : FieldOff Tryz.prog 26 4 4 := FieldOff.mk Tryz.runUnderlying26 rfl Tryz.sizeOf24 rfl rfl
theorem F31_0 : FieldOff Tryz.prog 31 0 0 := FieldOff.mk Tryz.runUnderlying31 rfl Tryz.sizeOf29 rfl rfl
theorem F31_1 : FieldOff Tryz.prog 31 1 1 := FieldOff.mk Tryz.runUnderlying31 rfl Tryz.sizeOf3 rfl rfl
theorem F39_0 : FieldOff Tryz.prog 39 0 0 := FieldOff.mk Tryz.runUnderlying39 rfl Tryz.sizeOf2 rfl rfl
theorem F39_1 : FieldOff Tryz.prog 39 1 1 := FieldOff.mk Tryz.runUnderlying39 rfl Tryz.sizeOf22 rfl rfl
theorem F39_2 : FieldOff Tryz.prog 39 2 2 := FieldOff.mk Tryz.runUnderlying39 rfl Tryz.sizeOf4 rfl rfl
theorem F39_3 : FieldOff Tryz.prog 39 3 3 := FieldOff.mk Tryz.runUnderlying39 rfl Tryz.sizeOf36 rfl rfl
theorem F39_4 : FieldOff Tryz.prog 39 4 4 := FieldOff.mk Tryz.runUnderlying39 rfl Tryz.sizeOf37 rfl rfl
theorem F50_0 : FieldOff Tryz.prog 50 0 0 := FieldOff.mk Tryz.runUnderlying50 rfl Tryz.sizeOf3 rfl rfl
theorem F50_1 : FieldOff Tryz.prog 50 1 1 := FieldOff.mk Tryz.runUnderlying50 rfl Tryz.sizeOf3 rfl rfl
theorem F50_2 : FieldOff Tryz.prog 50 2 2 := FieldOff.mk Tryz.runUnderlying50 rfl Tryz.sizeOf3 rfl rfl
theorem F50_3 : FieldOff Tryz.prog 50 3 3 := FieldOff.mk Tryz.runUnderlying50 rfl Tryz.sizeOf3 rfl rfl
theorem F50_4 : FieldOff Tryz.prog 50 4 4 := FieldOff.mk Tryz.runUnderlying50 rfl Tryz.sizeOf3 rfl rfl
theorem F50_5 : FieldOff Tryz.prog 50 5 5 := FieldOff.mk Tryz.runUnderlying50 rfl Tryz.sizeOf2 rfl rfl
theorem F50_6 : FieldOff Tryz.prog 50 6 6 := FieldOff.mk Tryz.runUnderlying50 rfl Tryz.sizeOf3 rfl rfl
theorem F50_7 : FieldOff Tryz.prog 50 7 7 := FieldOff.mk Tryz.runUnderlying50 rfl Tryz.sizeOf29 rfl rfl
theorem F56_0 : FieldOff Tryz.prog 56 0 0 := FieldOff.mk Tryz.runUnderlying56 rfl Tryz.sizeOf54 rfl rfl
theorem F58_0 : FieldOff Tryz.prog 58 0 0 := FieldOff.mk Tryz.runUnderlying58 rfl Tryz.sizeOf45 rfl rfl
theorem F58_1 : FieldOff Tryz.prog 58 1 1 := FieldOff.mk Tryz.runUnderlying58 rfl Tryz.sizeOf21 rfl rfl
theorem F58_2 : FieldOff Tryz.prog 58 2 2 := FieldOff.mk Tryz.runUnderlying58 rfl Tryz.sizeOf52 rfl rfl
theorem F58_3 : FieldOff Tryz.prog 58 3 3 := FieldOff.mk Tryz.runUnderlying58 rfl Tryz.sizeOf45 rfl rfl
theorem F58_4 : FieldOff Tryz.prog 58 4 4 := FieldOff.mk Tryz.runUnderlying58 rfl Tryz.sizeOf53 rfl rfl
theorem F58_5 : FieldOff Tryz.prog 58 5 5 := FieldOff.mk Tryz.runUnderlying58 rfl Tryz.sizeOf56 rfl rfl
theorem F64_0 : FieldOff Tryz.prog 64 0 0 := FieldOff.mk Tryz.runUnderlying64 rfl Tryz.sizeOf62 rfl rfl
theorem F64_1 : FieldOff Tryz.prog 64 1 1 := FieldOff.mk Tryz.runUnderlying64 rfl Tryz.sizeOf22 rfl rfl
theorem F65_0 : FieldOff Tryz.prog 65 0 0 := FieldOff.mk Tryz.runUnderlying65 rfl Tryz.sizeOf62 rfl rfl
theorem F65_1 : FieldOff Tryz.prog 65 1 1 := FieldOff.mk Tryz.runUnderlying65 rfl Tryz.sizeOf22 rfl rfl
theorem F75_0 : FieldOff Tryz.prog 75 0 0 := FieldOff.mk Tryz.runUnderlying75 rfl Tryz.sizeOf72 rfl rfl
theorem F75_1 : FieldOff Tryz.prog 75 1 1 := FieldOff.mk Tryz.runUnderlying75 rfl Tryz.sizeOf73 rfl rfl
theorem F75_2 : FieldOff Tryz.prog 75 2 2 := FieldOff.mk Tryz.runUnderlying75 rfl Tryz.sizeOf56 rfl rfl
theorem F77_0 : FieldOff Tryz.prog 77 0 0 := FieldOff.mk Tryz.runUnderlying77 rfl Tryz.sizeOf45 rfl rfl
theorem F77_1 : FieldOff Tryz.prog 77 1 1 := FieldOff.mk Tryz.runUnderlying77 rfl Tryz.sizeOf9 rfl rfl
theorem F77_2 : FieldOff Tryz.prog 77 2 2 := FieldOff.mk Tryz.runUnderlying77 rfl Tryz.sizeOf9 rfl rfl
theorem F77_3 : FieldOff Tryz.prog 77 3 3 := FieldOff.mk Tryz.runUnderlying77 rfl Tryz.sizeOf21 rfl rfl
theorem F77_4 : FieldOff Tryz.prog 77 4 4 := FieldOff.mk Tryz.runUnderlying77 rfl Tryz.sizeOf75 rfl rfl
theorem F77_5 : FieldOff Tryz.prog 77 5 7 := FieldOff.mk Tryz.runUnderlying77 rfl Tryz.sizeOf56 rfl rfl
theorem F85_0 : FieldOff Tryz.prog 85 0 0 := FieldOff.mk Tryz.runUnderlying85 rfl Tryz.sizeOf45 rfl rfl
theorem F85_1 : FieldOff Tryz.prog 85 1 1 := FieldOff.mk Tryz.runUnderlying85 rfl Tryz.sizeOf21 rfl rfl
theorem F85_2 : FieldOff Tryz.prog 85 2 2 := FieldOff.mk Tryz.runUnderlying85 rfl Tryz.sizeOf4 rfl rfl
theorem F85_3 : FieldOff Tryz.prog 85 3 3 := FieldOff.mk Tryz.runUnderlying85 rfl Tryz.sizeOf21 rfl rfl
theorem F85_4 : FieldOff Tryz.prog 85 4 4 := FieldOff.mk Tryz.runUnderlying85 rfl Tryz.sizeOf2 rfl rfl
theorem F85_5 : FieldOff Tryz.prog 85 5 5 := FieldOff.mk Tryz.runUnderlying85 rfl Tryz.sizeOf81 rfl rfl
theorem F85_6 : FieldOff Tryz.prog 85 6 6 := FieldOff.mk Tryz.runUnderlying85 rfl Tryz.sizeOf82 rfl rfl
theorem F85_7 : FieldOff Tryz.prog 85 7 7 := FieldOff.mk Tryz.runUnderlying85 rfl Tryz.sizeOf83 rfl rfl
theorem F85_8 : FieldOff Tryz.prog 85 8 8 := FieldOff.mk Tryz.runUnderlying85 rfl Tryz.sizeOf56 rfl rfl
theorem F98_0 : FieldOff Tryz.prog 98 0 0 := FieldOff.mk Tryz.runUnderlying98 rfl Tryz.sizeOf9 rfl rfl
theorem F98_1 : FieldOff Tryz.prog 98 1 1 := FieldOff.mk Tryz.runUnderlying98 rfl Tryz.sizeOf96 rfl rfl
theorem F98_2 : FieldOff Tryz.prog 98 2 2 := FieldOff.mk Tryz.runUnderlying98 rfl Tryz.sizeOf56 rfl rfl
theorem I102 : TI Tryz.prog 102 4 56 (.agg #[.string ⟨#[]⟩, .slice none 0 0, .int .i16 0, .map none]) := TI.mk_run Tryz.typeInfo102 rfl rfl rfl (by decide) rfl
theorem I112 : TI Tryz.prog 112 6 48 (.agg #[.int .i32 0, .int .i64 0, .int .i32 0, .pointer none, .int .i16 0, .map none]) := TI.mk_run Tryz.typeInfo112 rfl rfl rfl (by decide) rfl
theorem I122 : TI Tryz.prog 122 19 64 (.agg #[.string ⟨#[]⟩, .int .u8 0, .int .u8 0, .int .u8 0, .int .u8 0, .int .u8 0, .int .u8 0, .int .u8 0, .int .u8 0, .int .u8 0, .int .u8 0, .int .u8 0, .int .u8 0, .int .u8 0, .int .u8 0, .int .u8 0, .int .u8 0, .slice none 0 0, .map none]) := TI.mk_run Tryz.typeInfo122 rfl rfl rfl (by decide) rfl
theorem I125 : TI Tryz.prog 125 6 48 (.agg #[.int .i32 0, .int .i64 0, .int .i32 0, .pointer none, .int .i16 0, .map none]) := TI.mk_run Tryz.typeInfo125 rfl rfl rfl (by decide) rfl
theorem I139 : TI Tryz.prog 139 3 48 (.agg #[.string ⟨#[]⟩, .slice none 0 0, .map none]) := TI.mk_run Tryz.typeInfo139 rfl rfl rfl (by decide) rfl
theorem I144 : TI Tryz.prog 144 7 112 (.agg #[.string ⟨#[]⟩, .int .i8 0, .slice none 0 0, .pointer none, .slice none 0 0, .slice none 0 0, .map none]) := TI.mk_run Tryz.typeInfo144 rfl rfl rfl (by decide) rfl
theorem I148 : TI Tryz.prog 148 15 232 (.agg #[.string ⟨#[]⟩, .int .i8 0, .slice none 0 0, .pointer none, .slice none 0 0, .slice none 0 0, .map none, .string ⟨#[]⟩, .int .i8 0, .slice none 0 0, .pointer none, .slice none 0 0, .slice none 0 0, .map none, .map none]) := TI.mk_run Tryz.typeInfo148 rfl rfl rfl (by decide) rfl
theorem I151 : TI Tryz.prog 151 10 120 (.agg #[.string ⟨#[]⟩, .int .i32 0, .int .i32 0, .int .i32 0, .int .i32 0, .slice none 0 0, .int .i32 0, .slice none 0 0, .slice none 0 0, .map none]) := TI.mk_run Tryz.typeInfo151 rfl rfl rfl (by decide) rfl
theorem I154 : TI Tryz.prog 154 19 64 (.agg #[.string ⟨#[]⟩, .int .u8 0, .int .u8 0, .int .u8 0, .int .u8 0, .int .u8 0, .int .u8 0, .int .u8 0, .int .u8 0, .int .u8 0, .int .u8 0, .int .u8 0, .int .u8 0, .int .u8 0, .int .u8 0, .int .u8 0, .int .u8 0, .slice none 0 0, .map none]) := TI.mk_run Tryz.typeInfo154 rfl rfl rfl (by decide) rfl
theorem I158 : TI Tryz.prog 158 6 72 (.agg #[.int .i32 0, .string ⟨#[]⟩, .int .i32 0, .slice none 0 0, .pointer none, .map none]) := TI.mk_run Tryz.typeInfo158 rfl rfl rfl (by decide) rfl
theorem I166 : TI Tryz.prog 166 5 56 (.agg #[.int .i32 0, .string ⟨#[]⟩, .string ⟨#[]⟩, .int .i16 0, .map none]) := TI.mk_run Tryz.typeInfo166 rfl rfl rfl (by decide) rfl
theorem I21 : TI Tryz.prog 21 1 4 (.int .i32 0) := TI.mk_run Tryz.typeInfo21 rfl rfl rfl (by decide) rfl
theorem I26 : TI Tryz.prog 26 5 88 (.agg #[.int .i64 0, .slice none 0 0, .bool false, .slice none 0 0, .slice none 0 0]) := TI.mk_run Tryz.typeInfo26 rfl rfl rfl (by decide) rfl
theorem I39 : TI Tryz.prog 39 5 88 (.agg #[.int .i64 0, .slice none 0 0, .bool false, .slice none 0 0, .slice none 0 0]) := TI.mk_run Tryz.typeInfo39 rfl rfl rfl (by decide) rfl
theorem I5 : TI Tryz.prog 5 1 1 (.int .u8 0) := TI.mk_run Tryz.typeInfo5 rfl rfl rfl (by decide) rfl
theorem I62 : TI Tryz.prog 62 1 4 (.int .u32 0) := TI.mk_run Tryz.typeInfo62 rfl rfl rfl (by decide) rfl
theorem I64 : TI Tryz.prog 64 2 32 (.agg #[.int .u32 0, .slice none 0 0]) := TI.mk_run Tryz.typeInfo64 rfl rfl rfl (by decide) rfl
theorem I65 : TI Tryz.prog 65 2 32 (.agg #[.int .u32 0, .slice none 0 0]) := TI.mk_run Tryz.typeInfo65 rfl rfl rfl (by decide) rfl
theorem I9 : TI Tryz.prog 9 1 16 (.string ⟨#[]⟩) := TI.mk_run Tryz.typeInfo9 rfl rfl rfl (by decide) rfl
theorem I98 : TI Tryz.prog 98 3 48 (.agg #[.string ⟨#[]⟩, .slice none 0 0, .map none]) := TI.mk_run Tryz.typeInfo98 rfl rfl rfl (by decide) rfl
theorem L100 : Sli Tryz.prog 100 122 19 [.string ⟨#[]⟩, .int .u8 0, .int .u8 0, .int .u8 0, .int .u8 0, .int .u8 0, .int .u8 0, .int .u8 0, .int .u8 0, .int .u8 0, .int .u8 0, .int .u8 0, .int .u8 0, .int .u8 0, .int .u8 0, .int .u8 0, .int .u8 0, .slice none 0 0, .map none] := ⟨Tryz.runUnderlying100, Tryz.sizeOf122, ⟨_, Tryz.zeroValue122, rfl⟩, rfl, rfl⟩
theorem L120 : Sli Tryz.prog 120 125 6 [.int .i32 0, .int .i64 0, .int .i32 0, .pointer none, .int .i16 0, .map none] := ⟨Tryz.runUnderlying120, Tryz.sizeOf125, ⟨_, Tryz.zeroValue125, rfl⟩, rfl, rfl⟩
theorem L137 : Sli Tryz.prog 137 144 7 [.string ⟨#[]⟩, .int .i8 0, .slice none 0 0, .pointer none, .slice none 0 0, .slice none 0 0, .map none] := ⟨Tryz.runUnderlying137, Tryz.sizeOf144, ⟨_, Tryz.zeroValue144, rfl⟩, rfl, rfl⟩
theorem L142 : Sli Tryz.prog 142 9 1 [.string ⟨#[]⟩] := ⟨Tryz.runUnderlying142, Tryz.sizeOf9, ⟨_, Tryz.zeroValue9, rfl⟩, rfl, rfl⟩
theorem L149 : Sli Tryz.prog 149 21 1 [.int .i32 0] := ⟨Tryz.runUnderlying149, Tryz.sizeOf21, ⟨_, Tryz.zeroValue21, rfl⟩, rfl, rfl⟩
theorem L156 : Sli Tryz.prog 156 166 5 [.int .i32 0, .string ⟨#[]⟩, .string ⟨#[]⟩, .int .i16 0, .map none] := ⟨Tryz.runUnderlying156, Tryz.sizeOf166, ⟨_, Tryz.zeroValue166, rfl⟩, rfl, rfl⟩
theorem L190 : Sli Tryz.prog 190 62 1 [.int .u32 0] := ⟨Tryz.runUnderlying190, Tryz.sizeOf62, ⟨_, Tryz.zeroValue62, rfl⟩, rfl, rfl⟩
theorem L22 : Sli Tryz.prog 22 5 1 [.int .u8 0] := ⟨Tryz.runUnderlying22, Tryz.sizeOf5, ⟨_, Tryz.zeroValue5, rfl⟩, rfl, rfl⟩
theorem L23 : Sli Tryz.prog 23 26 5 [.int .i64 0, .slice none 0 0, .bool false, .slice none 0 0, .slice none 0 0] := ⟨Tryz.runUnderlying23, Tryz.sizeOf26, ⟨_, Tryz.zeroValue26, rfl⟩, rfl, rfl⟩
theorem L24 : Sli Tryz.prog 24 64 2 [.int .u32 0, .slice none 0 0] := ⟨Tryz.runUnderlying24, Tryz.sizeOf64, ⟨_, Tryz.zeroValue64, rfl⟩, rfl, rfl⟩
theorem L29 : Sli Tryz.prog 29 50 8 [.int .i64 0, .int .i64 0, .int .i64 0, .int .i64 0, .int .i64 0, .int .i64 0, .int .i64 0, .slice none 0 0] := ⟨Tryz.runUnderlying29, Tryz.sizeOf50, ⟨_, Tryz.zeroValue50, rfl⟩, rfl, rfl⟩
theorem L36 : Sli Tryz.prog 36 39 5 [.int .i64 0, .slice none 0 0, .bool false, .slice none 0 0, .slice none 0 0] := ⟨Tryz.runUnderlying36, Tryz.sizeOf39, ⟨_, Tryz.zeroValue39, rfl⟩, rfl, rfl⟩
theorem L37 : Sli Tryz.prog 37 65 2 [.int .u32 0, .slice none 0 0] := ⟨Tryz.runUnderlying37, Tryz.sizeOf65, ⟨_, Tryz.zeroValue65, rfl⟩, rfl, rfl⟩
theorem L52 : Sli Tryz.prog 52 98 3 [.string ⟨#[]⟩, .slice none 0 0, .map none] := ⟨Tryz.runUnderlying52, Tryz.sizeOf98, ⟨_, Tryz.zeroValue98, rfl⟩, rfl, rfl⟩
theorem L53 : Sli Tryz.prog 53 102 4 [.string ⟨#[]⟩, .slice none 0 0, .int .i16 0, .map none] := ⟨Tryz.runUnderlying53, Tryz.sizeOf102, ⟨_, Tryz.zeroValue102, rfl⟩, rfl, rfl⟩
theorem L72 : Sli Tryz.prog 72 139 3 [.string ⟨#[]⟩, .slice none 0 0, .map none] := ⟨Tryz.runUnderlying72, Tryz.sizeOf139, ⟨_, Tryz.zeroValue139, rfl⟩, rfl, rfl⟩
theorem L73 : Sli Tryz.prog 73 148 15 [.string ⟨#[]⟩, .int .i8 0, .slice none 0 0, .pointer none, .slice none 0 0, .slice none 0 0, .map none, .string ⟨#[]⟩, .int .i8 0, .slice none 0 0, .pointer none, .slice none 0 0, .slice none 0 0, .map none, .map none] := ⟨Tryz.runUnderlying73, Tryz.sizeOf148, ⟨_, Tryz.zeroValue148, rfl⟩, rfl, rfl⟩
theorem L81 : Sli Tryz.prog 81 151 10 [.string ⟨#[]⟩, .int .i32 0, .int .i32 0, .int .i32 0, .int .i32 0, .slice none 0 0, .int .i32 0, .slice none 0 0, .slice none 0 0, .map none] := ⟨Tryz.runUnderlying81, Tryz.sizeOf151, ⟨_, Tryz.zeroValue151, rfl⟩, rfl, rfl⟩
theorem L82 : Sli Tryz.prog 82 154 19 [.string ⟨#[]⟩, .int .u8 0, .int .u8 0, .int .u8 0, .int .u8 0, .int .u8 0, .int .u8 0, .int .u8 0, .int .u8 0, .int .u8 0, .int .u8 0, .int .u8 0, .int .u8 0, .int .u8 0, .int .u8 0, .int .u8 0, .int .u8 0, .slice none 0 0, .map none] := ⟨Tryz.runUnderlying82, Tryz.sizeOf154, ⟨_, Tryz.zeroValue154, rfl⟩, rfl, rfl⟩
theorem L83 : Sli Tryz.prog 83 158 6 [.int .i32 0, .string ⟨#[]⟩, .int .i32 0, .slice none 0 0, .pointer none, .map none] := ⟨Tryz.runUnderlying83, Tryz.sizeOf158, ⟨_, Tryz.zeroValue158, rfl⟩, rfl, rfl⟩
theorem L96 : Sli Tryz.prog 96 112 6 [.int .i32 0, .int .i64 0, .int .i32 0, .pointer none, .int .i16 0, .map none] := ⟨Tryz.runUnderlying96, Tryz.sizeOf112, ⟨_, Tryz.zeroValue112, rfl⟩, rfl, rfl⟩
theorem S26 : Stru Tryz.prog 26 [(0, 1), (1, 1), (2, 1), (3, 1), (4, 1)] [.int .i64 0, .slice none 0 0, .bool false, .slice none 0 0, .slice none 0 0] := ⟨Tryz.zeroValue26, _, Tryz.runUnderlying26, fun w => by kernel_rfl⟩
theorem S31 : Stru Tryz.prog 31 [(0, 1), (1, 1)] [.slice none 0 0, .int .i64 0] := ⟨Tryz.zeroValue31, _, Tryz.runUnderlying31, fun w => by kernel_rfl⟩
theorem S39 : Stru Tryz.prog 39 [(0, 1), (1, 1), (2, 1), (3, 1), (4, 1)] [.int .i64 0, .slice none 0 0, .bool false, .slice none 0 0, .slice none 0 0] := ⟨Tryz.zeroValue39, _, Tryz.runUnderlying39, fun w => by kernel_rfl⟩
theorem S50 : Stru Tryz.prog 50 [(0, 1), (1, 1), (2, 1), (3, 1), (4, 1), (5, 1), (6, 1), (7, 1)] [.int .i64 0, .int .i64 0, .int .i64 0, .int .i64 0, .int .i64 0, .int .i64 0, .int .i64 0, .slice none 0 0] := ⟨Tryz.zeroValue50, _, Tryz.runUnderlying50, fun w => by kernel_rfl⟩
theorem S58 : Stru Tryz.prog 58 [(0, 1), (1, 1), (2, 1), (3, 1), (4, 1), (5, 1)] [.int .i16 0, .int .i32 0, .slice none 0 0, .int .i16 0, .slice none 0 0, .map none] := ⟨Tryz.zeroValue58, _, Tryz.runUnderlying58, fun w => by kernel_rfl⟩
theorem S64 : Stru Tryz.prog 64 [(0, 1), (1, 1)] [.int .u32 0, .slice none 0 0] := ⟨Tryz.zeroValue64, _, Tryz.runUnderlying64, fun w => by kernel_rfl⟩
theorem S65 : Stru Tryz.prog 65 [(0, 1), (1, 1)] [.int .u32 0, .slice none 0 0] := ⟨Tryz.zeroValue65, _, Tryz.runUnderlying65, fun w => by kernel_rfl⟩
theorem S77 : Stru Tryz.prog 77 [(0, 1), (1, 1), (2, 1), (3, 1), (4, 3), (7, 1)] [.int .i16 0, .string ⟨#[]⟩, .string ⟨#[]⟩, .int .i32 0, .slice none 0 0, .slice none 0 0, .map none, .map none] := ⟨Tryz.zeroValue77, _, Tryz.runUnderlying77, fun w => by kernel_rfl⟩
theorem S85 : Stru Tryz.prog 85 [(0, 1), (1, 1), (2, 1), (3, 1), (4, 1), (5, 1), (6, 1), (7, 1), (8, 1)] [.int .i16 0, .int .i32 0, .bool false, .int .i32 0, .int .i64 0, .slice none 0 0, .slice none 0 0, .slice none 0 0, .map none] := ⟨Tryz.zeroValue85, _, Tryz.runUnderlying85, fun w => by kernel_rfl⟩
end Go.Sx

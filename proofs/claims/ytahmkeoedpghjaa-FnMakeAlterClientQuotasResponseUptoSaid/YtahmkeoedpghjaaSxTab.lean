import Derived.Test.YtahmkeoedpghjaaProg
import Derived.Test.YtahmkeoedpghjaaSxNum
import Derived.KernelRfl
set_option linter.unusedVariables false
set_option linter.unusedSimpArgs false
namespace Go.Sx
open Go.Proofs
theorem mixed : Try.prog.follows .mixedOrders = true := by kernel_rfl
theorem C39_0 : FieldCell Try.prog 39 0 0 := FieldCell.mk Try.runUnderlying39 rfl Try.isAgg2 rfl
theorem C39_1 : FieldCell Try.prog 39 1 1 := FieldCell.mk Try.runUnderlying39 rfl Try.isAgg22 rfl
theorem C39_2 : FieldCell Try.prog 39 2 2 := FieldCell.mk Try.runUnderlying39 rfl Try.isAgg4 rfl
theorem C39_3 : FieldCell Try.prog 39 3 3 := FieldCell.mk Try.runUnderlying39 rfl Try.isAgg36 rfl
theorem F101_0 : FieldOff Try.prog 101 0 0 := FieldOff.mk Try.runUnderlying101 rfl Try.sizeOf45 rfl rfl
theorem F101_1 : FieldOff Try.prog 101 1 1 := FieldOff.mk Try.runUnderlying101 rfl Try.sizeOf21 rfl rfl
theorem F101_10 : FieldOff Try.prog 101 10 25 := FieldOff.mk Try.runUnderlying101 rfl Try.sizeOf54 rfl rfl
theorem F101_2 : FieldOff Try.prog 101 2 2 := FieldOff.mk Try.runUnderlying101 rfl Try.sizeOf45 rfl rfl
theorem F101_3 : FieldOff Try.prog 101 3 3 := FieldOff.mk Try.runUnderlying101 rfl Try.sizeOf98 rfl rfl
theorem F101_4 : FieldOff Try.prog 101 4 19 := FieldOff.mk Try.runUnderlying101 rfl Try.sizeOf21 rfl rfl
theorem F101_5 : FieldOff Try.prog 101 5 20 := FieldOff.mk Try.runUnderlying101 rfl Try.sizeOf99 rfl rfl
theorem F101_6 : FieldOff Try.prog 101 6 21 := FieldOff.mk Try.runUnderlying101 rfl Try.sizeOf21 rfl rfl
theorem F101_7 : FieldOff Try.prog 101 7 22 := FieldOff.mk Try.runUnderlying101 rfl Try.sizeOf21 rfl rfl
theorem F101_8 : FieldOff Try.prog 101 8 23 := FieldOff.mk Try.runUnderlying101 rfl Try.sizeOf4 rfl rfl
theorem F101_9 : FieldOff Try.prog 101 9 24 := FieldOff.mk Try.runUnderlying101 rfl Try.sizeOf74 rfl rfl
theorem F107_0 : FieldOff Try.prog 107 0 0 := FieldOff.mk Try.runUnderlying107 rfl Try.sizeOf45 rfl rfl
theorem F107_1 : FieldOff Try.prog 107 1 1 := FieldOff.mk Try.runUnderlying107 rfl Try.sizeOf21 rfl rfl
theorem F107_2 : FieldOff Try.prog 107 2 2 := FieldOff.mk Try.runUnderlying107 rfl Try.sizeOf105 rfl rfl
theorem F107_3 : FieldOff Try.prog 107 3 3 := FieldOff.mk Try.runUnderlying107 rfl Try.sizeOf54 rfl rfl
theorem F113_0 : FieldOff Try.prog 113 0 0 := FieldOff.mk Try.runUnderlying113 rfl Try.sizeOf45 rfl rfl
theorem F113_1 : FieldOff Try.prog 113 1 1 := FieldOff.mk Try.runUnderlying113 rfl Try.sizeOf9 rfl rfl
theorem F113_2 : FieldOff Try.prog 113 2 2 := FieldOff.mk Try.runUnderlying113 rfl Try.sizeOf21 rfl rfl
theorem F113_3 : FieldOff Try.prog 113 3 3 := FieldOff.mk Try.runUnderlying113 rfl Try.sizeOf21 rfl rfl
theorem F113_4 : FieldOff Try.prog 113 4 4 := FieldOff.mk Try.runUnderlying113 rfl Try.sizeOf9 rfl rfl
theorem F113_5 : FieldOff Try.prog 113 5 5 := FieldOff.mk Try.runUnderlying113 rfl Try.sizeOf51 rfl rfl
theorem F113_6 : FieldOff Try.prog 113 6 6 := FieldOff.mk Try.runUnderlying113 rfl Try.sizeOf9 rfl rfl
theorem F113_7 : FieldOff Try.prog 113 7 7 := FieldOff.mk Try.runUnderlying113 rfl Try.sizeOf111 rfl rfl
theorem F113_8 : FieldOff Try.prog 113 8 8 := FieldOff.mk Try.runUnderlying113 rfl Try.sizeOf51 rfl rfl
theorem F113_9 : FieldOff Try.prog 113 9 9 := FieldOff.mk Try.runUnderlying113 rfl Try.sizeOf54 rfl rfl
theorem F119_0 : FieldOff Try.prog 119 0 0 := FieldOff.mk Try.runUnderlying119 rfl Try.sizeOf45 rfl rfl
theorem F119_1 : FieldOff Try.prog 119 1 1 := FieldOff.mk Try.runUnderlying119 rfl Try.sizeOf21 rfl rfl
theorem F119_2 : FieldOff Try.prog 119 2 2 := FieldOff.mk Try.runUnderlying119 rfl Try.sizeOf45 rfl rfl
theorem F119_3 : FieldOff Try.prog 119 3 3 := FieldOff.mk Try.runUnderlying119 rfl Try.sizeOf51 rfl rfl
theorem F119_4 : FieldOff Try.prog 119 4 4 := FieldOff.mk Try.runUnderlying119 rfl Try.sizeOf117 rfl rfl
theorem F119_5 : FieldOff Try.prog 119 5 5 := FieldOff.mk Try.runUnderlying119 rfl Try.sizeOf54 rfl rfl
theorem F125_0 : FieldOff Try.prog 125 0 0 := FieldOff.mk Try.runUnderlying125 rfl Try.sizeOf45 rfl rfl
theorem F125_1 : FieldOff Try.prog 125 1 1 := FieldOff.mk Try.runUnderlying125 rfl Try.sizeOf21 rfl rfl
theorem F125_2 : FieldOff Try.prog 125 2 2 := FieldOff.mk Try.runUnderlying125 rfl Try.sizeOf45 rfl rfl
theorem F125_3 : FieldOff Try.prog 125 3 3 := FieldOff.mk Try.runUnderlying125 rfl Try.sizeOf123 rfl rfl
theorem F125_4 : FieldOff Try.prog 125 4 4 := FieldOff.mk Try.runUnderlying125 rfl Try.sizeOf54 rfl rfl
theorem F151_0 : FieldOff Try.prog 151 0 0 := FieldOff.mk Try.runUnderlying151 rfl Try.sizeOf98 rfl rfl
theorem F151_1 : FieldOff Try.prog 151 1 16 := FieldOff.mk Try.runUnderlying151 rfl Try.sizeOf149 rfl rfl
theorem F151_2 : FieldOff Try.prog 151 2 17 := FieldOff.mk Try.runUnderlying151 rfl Try.sizeOf54 rfl rfl
theorem F157_0 : FieldOff Try.prog 157 0 0 := FieldOff.mk Try.runUnderlying157 rfl Try.sizeOf21 rfl rfl
theorem F157_1 : FieldOff Try.prog 157 1 1 := FieldOff.mk Try.runUnderlying157 rfl Try.sizeOf21 rfl rfl
theorem F157_2 : FieldOff Try.prog 157 2 2 := FieldOff.mk Try.runUnderlying157 rfl Try.sizeOf54 rfl rfl
theorem F161_0 : FieldOff Try.prog 161 0 0 := FieldOff.mk Try.runUnderlying161 rfl Try.sizeOf45 rfl rfl
theorem F161_1 : FieldOff Try.prog 161 1 1 := FieldOff.mk Try.runUnderlying161 rfl Try.sizeOf51 rfl rfl
theorem F161_2 : FieldOff Try.prog 161 2 2 := FieldOff.mk Try.runUnderlying161 rfl Try.sizeOf159 rfl rfl
theorem F161_3 : FieldOff Try.prog 161 3 3 := FieldOff.mk Try.runUnderlying161 rfl Try.sizeOf54 rfl rfl
theorem F166_0 : FieldOff Try.prog 166 0 0 := FieldOff.mk Try.runUnderlying166 rfl Try.sizeOf9 rfl rfl
theorem F166_1 : FieldOff Try.prog 166 1 1 := FieldOff.mk Try.runUnderlying166 rfl Try.sizeOf51 rfl rfl
theorem F166_2 : FieldOff Try.prog 166 2 2 := FieldOff.mk Try.runUnderlying166 rfl Try.sizeOf54 rfl rfl
theorem F168_0 : FieldOff Try.prog 168 0 0 := FieldOff.mk Try.runUnderlying168 rfl Try.sizeOf9 rfl rfl
theorem F168_1 : FieldOff Try.prog 168 1 1 := FieldOff.mk Try.runUnderlying168 rfl Try.sizeOf22 rfl rfl
theorem F168_2 : FieldOff Try.prog 168 2 2 := FieldOff.mk Try.runUnderlying168 rfl Try.sizeOf54 rfl rfl
theorem F175_0 : FieldOff Try.prog 175 0 0 := FieldOff.mk Try.runUnderlying175 rfl Try.sizeOf171 rfl rfl
theorem F175_1 : FieldOff Try.prog 175 1 1 := FieldOff.mk Try.runUnderlying175 rfl Try.sizeOf9 rfl rfl
theorem F175_2 : FieldOff Try.prog 175 2 2 := FieldOff.mk Try.runUnderlying175 rfl Try.sizeOf172 rfl rfl
theorem F175_3 : FieldOff Try.prog 175 3 3 := FieldOff.mk Try.runUnderlying175 rfl Try.sizeOf173 rfl rfl
theorem F175_4 : FieldOff Try.prog 175 4 4 := FieldOff.mk Try.runUnderlying175 rfl Try.sizeOf54 rfl rfl
theorem F182_0 : FieldOff Try.prog 182 0 0 := FieldOff.mk Try.runUnderlying182 rfl Try.sizeOf9 rfl rfl
theorem F182_1 : FieldOff Try.prog 182 1 1 := FieldOff.mk Try.runUnderlying182 rfl Try.sizeOf9 rfl rfl
theorem F182_2 : FieldOff Try.prog 182 2 2 := FieldOff.mk Try.runUnderlying182 rfl Try.sizeOf179 rfl rfl
theorem F182_3 : FieldOff Try.prog 182 3 3 := FieldOff.mk Try.runUnderlying182 rfl Try.sizeOf180 rfl rfl
theorem F182_4 : FieldOff Try.prog 182 4 4 := FieldOff.mk Try.runUnderlying182 rfl Try.sizeOf54 rfl rfl
theorem F185_0 : FieldOff Try.prog 185 0 0 := FieldOff.mk Try.runUnderlying185 rfl Try.sizeOf45 rfl rfl
theorem F185_1 : FieldOff Try.prog 185 1 1 := FieldOff.mk Try.runUnderlying185 rfl Try.sizeOf9 rfl rfl
theorem F185_2 : FieldOff Try.prog 185 2 2 := FieldOff.mk Try.runUnderlying185 rfl Try.sizeOf183 rfl rfl
theorem F185_3 : FieldOff Try.prog 185 3 3 := FieldOff.mk Try.runUnderlying185 rfl Try.sizeOf2 rfl rfl
theorem F185_4 : FieldOff Try.prog 185 4 4 := FieldOff.mk Try.runUnderlying185 rfl Try.sizeOf2 rfl rfl
theorem F185_5 : FieldOff Try.prog 185 5 5 := FieldOff.mk Try.runUnderlying185 rfl Try.sizeOf4 rfl rfl
theorem F185_6 : FieldOff Try.prog 185 6 6 := FieldOff.mk Try.runUnderlying185 rfl Try.sizeOf54 rfl rfl
theorem F191_0 : FieldOff Try.prog 191 0 0 := FieldOff.mk Try.runUnderlying191 rfl Try.sizeOf9 rfl rfl
theorem F191_1 : FieldOff Try.prog 191 1 1 := FieldOff.mk Try.runUnderlying191 rfl Try.sizeOf189 rfl rfl
theorem F191_2 : FieldOff Try.prog 191 2 2 := FieldOff.mk Try.runUnderlying191 rfl Try.sizeOf54 rfl rfl
theorem F194_0 : FieldOff Try.prog 194 0 0 := FieldOff.mk Try.runUnderlying194 rfl Try.sizeOf21 rfl rfl
theorem F194_1 : FieldOff Try.prog 194 1 1 := FieldOff.mk Try.runUnderlying194 rfl Try.sizeOf2 rfl rfl
theorem F194_2 : FieldOff Try.prog 194 2 2 := FieldOff.mk Try.runUnderlying194 rfl Try.sizeOf2 rfl rfl
theorem F194_3 : FieldOff Try.prog 194 3 3 := FieldOff.mk Try.runUnderlying194 rfl Try.sizeOf4 rfl rfl
theorem F194_4 : FieldOff Try.prog 194 4 4 := FieldOff.mk Try.runUnderlying194 rfl Try.sizeOf54 rfl rfl
theorem F26_0 : FieldOff Try.prog 26 0 0 := FieldOff.mk Try.runUnderlying26 rfl Try.sizeOf2 rfl rfl
theorem F26_1 : FieldOff Try.prog 26 1 1 := FieldOff.mk Try.runUnderlying26 rfl Try.sizeOf22 rfl rfl
theorem F26_2 : FieldOff Try.prog 26 2 2 := FieldOff.mk Try.runUnderlying26 rfl Try.sizeOf4 rfl rfl
theorem F26_3 : FieldOff Try.prog 26 3 3 := FieldOff.mk Try.runUnderlying26 rfl Try.sizeOf23 rfl rfl
theorem F26_4 : FieldOff Try.prog 26 4 4 := FieldOff.mk Try.runUnderlying26 rfl Try.sizeOf24 rfl rfl
theorem F31_0 : FieldOff Try.prog 31 0 0 := FieldOff.mk Try.runUnderlying31 rfl Try.sizeOf29 rfl rfl
theorem F31_1 : FieldOff Try.prog 31 1 1 := FieldOff.mk Try.runUnderlying31 rfl Try.sizeOf3 rfl rfl
theorem F39_0 : FieldOff Try.prog 39 0 0 := FieldOff.mk Try.runUnderlying39 rfl Try.sizeOf2 rfl rfl
theorem F39_1 : FieldOff Try.prog 39 1 1 := FieldOff.mk Try.runUnderlying39 rfl Try.sizeOf22 rfl rfl
theorem F39_2 : FieldOff Try.prog 39 2 2 := FieldOff.mk Try.runUnderlying39 rfl Try.sizeOf4 rfl rfl
theorem F39_3 : FieldOff Try.prog 39 3 3 := FieldOff.mk Try.runUnderlying39 rfl Try.sizeOf36 rfl rfl
theorem F39_4 : FieldOff Try.prog 39 4 4 := FieldOff.mk Try.runUnderlying39 rfl Try.sizeOf37 rfl rfl
theorem F50_0 : FieldOff Try.prog 50 0 0 := FieldOff.mk Try.runUnderlying50 rfl Try.sizeOf3 rfl rfl
theorem F50_1 : FieldOff Try.prog 50 1 1 := FieldOff.mk Try.runUnderlying50 rfl Try.sizeOf3 rfl rfl
theorem F50_2 : FieldOff Try.prog 50 2 2 := FieldOff.mk Try.runUnderlying50 rfl Try.sizeOf3 rfl rfl
theorem F50_3 : FieldOff Try.prog 50 3 3 := FieldOff.mk Try.runUnderlying50 rfl Try.sizeOf3 rfl rfl
theorem F50_4 : FieldOff Try.prog 50 4 4 := FieldOff.mk Try.runUnderlying50 rfl Try.sizeOf3 rfl rfl
theorem F50_5 : FieldOff Try.prog 50 5 5 := FieldOff.mk Try.runUnderlying50 rfl Try.sizeOf2 rfl rfl
theorem F50_6 : FieldOff Try.prog 50 6 6 := FieldOff.mk Try.runUnderlying50 rfl Try.sizeOf3 rfl rfl
theorem F50_7 : FieldOff Try.prog 50 7 7 := FieldOff.mk Try.runUnderlying50 rfl Try.sizeOf29 rfl rfl
theorem F54_0 : FieldOff Try.prog 54 0 0 := FieldOff.mk Try.runUnderlying54 rfl Try.sizeOf52 rfl rfl
theorem F56_0 : FieldOff Try.prog 56 0 0 := FieldOff.mk Try.runUnderlying56 rfl Try.sizeOf45 rfl rfl
theorem F56_1 : FieldOff Try.prog 56 1 1 := FieldOff.mk Try.runUnderlying56 rfl Try.sizeOf21 rfl rfl
theorem F56_2 : FieldOff Try.prog 56 2 2 := FieldOff.mk Try.runUnderlying56 rfl Try.sizeOf45 rfl rfl
theorem F56_3 : FieldOff Try.prog 56 3 3 := FieldOff.mk Try.runUnderlying56 rfl Try.sizeOf51 rfl rfl
theorem F56_4 : FieldOff Try.prog 56 4 4 := FieldOff.mk Try.runUnderlying56 rfl Try.sizeOf54 rfl rfl
theorem F62_0 : FieldOff Try.prog 62 0 0 := FieldOff.mk Try.runUnderlying62 rfl Try.sizeOf60 rfl rfl
theorem F62_1 : FieldOff Try.prog 62 1 1 := FieldOff.mk Try.runUnderlying62 rfl Try.sizeOf22 rfl rfl
theorem F63_0 : FieldOff Try.prog 63 0 0 := FieldOff.mk Try.runUnderlying63 rfl Try.sizeOf60 rfl rfl
theorem F63_1 : FieldOff Try.prog 63 1 1 := FieldOff.mk Try.runUnderlying63 rfl Try.sizeOf22 rfl rfl
theorem F70_0 : FieldOff Try.prog 70 0 0 := FieldOff.mk Try.runUnderlying70 rfl Try.sizeOf45 rfl rfl
theorem F70_1 : FieldOff Try.prog 70 1 1 := FieldOff.mk Try.runUnderlying70 rfl Try.sizeOf21 rfl rfl
theorem F70_2 : FieldOff Try.prog 70 2 2 := FieldOff.mk Try.runUnderlying70 rfl Try.sizeOf45 rfl rfl
theorem F70_3 : FieldOff Try.prog 70 3 3 := FieldOff.mk Try.runUnderlying70 rfl Try.sizeOf51 rfl rfl
theorem F70_4 : FieldOff Try.prog 70 4 4 := FieldOff.mk Try.runUnderlying70 rfl Try.sizeOf54 rfl rfl
theorem F76_0 : FieldOff Try.prog 76 0 0 := FieldOff.mk Try.runUnderlying76 rfl Try.sizeOf45 rfl rfl
theorem F76_1 : FieldOff Try.prog 76 1 1 := FieldOff.mk Try.runUnderlying76 rfl Try.sizeOf74 rfl rfl
theorem F76_2 : FieldOff Try.prog 76 2 2 := FieldOff.mk Try.runUnderlying76 rfl Try.sizeOf4 rfl rfl
theorem F76_3 : FieldOff Try.prog 76 3 3 := FieldOff.mk Try.runUnderlying76 rfl Try.sizeOf54 rfl rfl
theorem F82_0 : FieldOff Try.prog 82 0 0 := FieldOff.mk Try.runUnderlying82 rfl Try.sizeOf45 rfl rfl
theorem F82_1 : FieldOff Try.prog 82 1 1 := FieldOff.mk Try.runUnderlying82 rfl Try.sizeOf9 rfl rfl
theorem F82_2 : FieldOff Try.prog 82 2 2 := FieldOff.mk Try.runUnderlying82 rfl Try.sizeOf80 rfl rfl
theorem F82_3 : FieldOff Try.prog 82 3 3 := FieldOff.mk Try.runUnderlying82 rfl Try.sizeOf74 rfl rfl
theorem F82_4 : FieldOff Try.prog 82 4 4 := FieldOff.mk Try.runUnderlying82 rfl Try.sizeOf54 rfl rfl
theorem F87_0 : FieldOff Try.prog 87 0 0 := FieldOff.mk Try.runUnderlying87 rfl Try.sizeOf45 rfl rfl
theorem F87_1 : FieldOff Try.prog 87 1 1 := FieldOff.mk Try.runUnderlying87 rfl Try.sizeOf21 rfl rfl
theorem F87_2 : FieldOff Try.prog 87 2 2 := FieldOff.mk Try.runUnderlying87 rfl Try.sizeOf45 rfl rfl
theorem F87_3 : FieldOff Try.prog 87 3 3 := FieldOff.mk Try.runUnderlying87 rfl Try.sizeOf51 rfl rfl
theorem F87_4 : FieldOff Try.prog 87 4 4 := FieldOff.mk Try.runUnderlying87 rfl Try.sizeOf51 rfl rfl
theorem F87_5 : FieldOff Try.prog 87 5 5 := FieldOff.mk Try.runUnderlying87 rfl Try.sizeOf22 rfl rfl
theorem F87_6 : FieldOff Try.prog 87 6 6 := FieldOff.mk Try.runUnderlying87 rfl Try.sizeOf54 rfl rfl
theorem F94_0 : FieldOff Try.prog 94 0 0 := FieldOff.mk Try.runUnderlying94 rfl Try.sizeOf45 rfl rfl
theorem F94_1 : FieldOff Try.prog 94 1 1 := FieldOff.mk Try.runUnderlying94 rfl Try.sizeOf9 rfl rfl
theorem F94_2 : FieldOff Try.prog 94 2 2 := FieldOff.mk Try.runUnderlying94 rfl Try.sizeOf92 rfl rfl
theorem F94_3 : FieldOff Try.prog 94 3 3 := FieldOff.mk Try.runUnderlying94 rfl Try.sizeOf54 rfl rfl
theorem I151 : TI Try.prog 151 18 48 (.agg #[.int .u8 0, .int .u8 0, .int .u8 0, .int .u8 0, .int .u8 0, .int .u8 0, .int .u8 0, .int .u8 0, .int .u8 0, .int .u8 0, .int .u8 0, .int .u8 0, .int .u8 0, .int .u8 0, .int .u8 0, .int .u8 0, .slice none 0 0, .map none]) := TI.mk_run Try.typeInfo151 rfl rfl rfl (by decide) rfl
theorem I157 : TI Try.prog 157 3 16 (.agg #[.int .i32 0, .int .i32 0, .map none]) := TI.mk_run Try.typeInfo157 rfl rfl rfl (by decide) rfl
theorem I161 : TI Try.prog 161 4 48 (.agg #[.int .i16 0, .pointer none, .slice none 0 0, .map none]) := TI.mk_run Try.typeInfo161 rfl rfl rfl (by decide) rfl
theorem I166 : TI Try.prog 166 3 32 (.agg #[.string ⟨#[]⟩, .pointer none, .map none]) := TI.mk_run Try.typeInfo166 rfl rfl rfl (by decide) rfl
theorem I168 : TI Try.prog 168 3 48 (.agg #[.string ⟨#[]⟩, .slice none 0 0, .map none]) := TI.mk_run Try.typeInfo168 rfl rfl rfl (by decide) rfl
theorem I175 : TI Try.prog 175 5 64 (.agg #[.int .i8 0, .string ⟨#[]⟩, .int .i8 0, .slice none 0 0, .map none]) := TI.mk_run Try.typeInfo175 rfl rfl rfl (by decide) rfl
theorem I182 : TI Try.prog 182 5 48 (.agg #[.string ⟨#[]⟩, .string ⟨#[]⟩, .int .i8 0, .int .i8 0, .map none]) := TI.mk_run Try.typeInfo182 rfl rfl rfl (by decide) rfl
theorem I185 : TI Try.prog 185 7 80 (.agg #[.int .i16 0, .string ⟨#[]⟩, .slice none 0 0, .int .i64 0, .int .i64 0, .bool false, .map none]) := TI.mk_run Try.typeInfo185 rfl rfl rfl (by decide) rfl
theorem I191 : TI Try.prog 191 3 48 (.agg #[.string ⟨#[]⟩, .slice none 0 0, .map none]) := TI.mk_run Try.typeInfo191 rfl rfl rfl (by decide) rfl
theorem I194 : TI Try.prog 194 5 40 (.agg #[.int .i32 0, .int .i64 0, .int .i64 0, .bool false, .map none]) := TI.mk_run Try.typeInfo194 rfl rfl rfl (by decide) rfl
theorem I26 : TI Try.prog 26 5 88 (.agg #[.int .i64 0, .slice none 0 0, .bool false, .slice none 0 0, .slice none 0 0]) := TI.mk_run Try.typeInfo26 rfl rfl rfl (by decide) rfl
theorem I39 : TI Try.prog 39 5 88 (.agg #[.int .i64 0, .slice none 0 0, .bool false, .slice none 0 0, .slice none 0 0]) := TI.mk_run Try.typeInfo39 rfl rfl rfl (by decide) rfl
theorem I5 : TI Try.prog 5 1 1 (.int .u8 0) := TI.mk_run Try.typeInfo5 rfl rfl rfl (by decide) rfl
theorem I60 : TI Try.prog 60 1 4 (.int .u32 0) := TI.mk_run Try.typeInfo60 rfl rfl rfl (by decide) rfl
theorem I62 : TI Try.prog 62 2 32 (.agg #[.int .u32 0, .slice none 0 0]) := TI.mk_run Try.typeInfo62 rfl rfl rfl (by decide) rfl
theorem I63 : TI Try.prog 63 2 32 (.agg #[.int .u32 0, .slice none 0 0]) := TI.mk_run Try.typeInfo63 rfl rfl rfl (by decide) rfl
theorem I80 : TI Try.prog 80 1 1 (.int .i8 0) := TI.mk_run Try.typeInfo80 rfl rfl rfl (by decide) rfl
theorem I9 : TI Try.prog 9 1 16 (.string ⟨#[]⟩) := TI.mk_run Try.typeInfo9 rfl rfl rfl (by decide) rfl
theorem L105 : Sli Try.prog 105 161 4 [.int .i16 0, .pointer none, .slice none 0 0, .map none] := ⟨Try.runUnderlying105, Try.sizeOf161, ⟨_, Try.zeroValue161, rfl⟩, rfl, rfl⟩
theorem L111 : Sli Try.prog 111 168 3 [.string ⟨#[]⟩, .slice none 0 0, .map none] := ⟨Try.runUnderlying111, Try.sizeOf168, ⟨_, Try.zeroValue168, rfl⟩, rfl, rfl⟩
theorem L117 : Sli Try.prog 117 175 5 [.int .i8 0, .string ⟨#[]⟩, .int .i8 0, .slice none 0 0, .map none] := ⟨Try.runUnderlying117, Try.sizeOf175, ⟨_, Try.zeroValue175, rfl⟩, rfl, rfl⟩
theorem L123 : Sli Try.prog 123 185 7 [.int .i16 0, .string ⟨#[]⟩, .slice none 0 0, .int .i64 0, .int .i64 0, .bool false, .map none] := ⟨Try.runUnderlying123, Try.sizeOf185, ⟨_, Try.zeroValue185, rfl⟩, rfl, rfl⟩
theorem L149 : Sli Try.prog 149 157 3 [.int .i32 0, .int .i32 0, .map none] := ⟨Try.runUnderlying149, Try.sizeOf157, ⟨_, Try.zeroValue157, rfl⟩, rfl, rfl⟩
theorem L159 : Sli Try.prog 159 166 3 [.string ⟨#[]⟩, .pointer none, .map none] := ⟨Try.runUnderlying159, Try.sizeOf166, ⟨_, Try.zeroValue166, rfl⟩, rfl, rfl⟩
theorem L173 : Sli Try.prog 173 182 5 [.string ⟨#[]⟩, .string ⟨#[]⟩, .int .i8 0, .int .i8 0, .map none] := ⟨Try.runUnderlying173, Try.sizeOf182, ⟨_, Try.zeroValue182, rfl⟩, rfl, rfl⟩
theorem L183 : Sli Try.prog 183 191 3 [.string ⟨#[]⟩, .slice none 0 0, .map none] := ⟨Try.runUnderlying183, Try.sizeOf191, ⟨_, Try.zeroValue191, rfl⟩, rfl, rfl⟩
theorem L189 : Sli Try.prog 189 194 5 [.int .i32 0, .int .i64 0, .int .i64 0, .bool false, .map none] := ⟨Try.runUnderlying189, Try.sizeOf194, ⟨_, Try.zeroValue194, rfl⟩, rfl, rfl⟩
theorem L211 : Sli Try.prog 211 60 1 [.int .u32 0] := ⟨Try.runUnderlying211, Try.sizeOf60, ⟨_, Try.zeroValue60, rfl⟩, rfl, rfl⟩
theorem L22 : Sli Try.prog 22 5 1 [.int .u8 0] := ⟨Try.runUnderlying22, Try.sizeOf5, ⟨_, Try.zeroValue5, rfl⟩, rfl, rfl⟩
theorem L23 : Sli Try.prog 23 26 5 [.int .i64 0, .slice none 0 0, .bool false, .slice none 0 0, .slice none 0 0] := ⟨Try.runUnderlying23, Try.sizeOf26, ⟨_, Try.zeroValue26, rfl⟩, rfl, rfl⟩
theorem L24 : Sli Try.prog 24 62 2 [.int .u32 0, .slice none 0 0] := ⟨Try.runUnderlying24, Try.sizeOf62, ⟨_, Try.zeroValue62, rfl⟩, rfl, rfl⟩
theorem L29 : Sli Try.prog 29 50 8 [.int .i64 0, .int .i64 0, .int .i64 0, .int .i64 0, .int .i64 0, .int .i64 0, .int .i64 0, .slice none 0 0] := ⟨Try.runUnderlying29, Try.sizeOf50, ⟨_, Try.zeroValue50, rfl⟩, rfl, rfl⟩
theorem L36 : Sli Try.prog 36 39 5 [.int .i64 0, .slice none 0 0, .bool false, .slice none 0 0, .slice none 0 0] := ⟨Try.runUnderlying36, Try.sizeOf39, ⟨_, Try.zeroValue39, rfl⟩, rfl, rfl⟩
theorem L37 : Sli Try.prog 37 63 2 [.int .u32 0, .slice none 0 0] := ⟨Try.runUnderlying37, Try.sizeOf63, ⟨_, Try.zeroValue63, rfl⟩, rfl, rfl⟩
theorem L74 : Sli Try.prog 74 9 1 [.string ⟨#[]⟩] := ⟨Try.runUnderlying74, Try.sizeOf9, ⟨_, Try.zeroValue9, rfl⟩, rfl, rfl⟩
theorem L92 : Sli Try.prog 92 151 18 [.int .u8 0, .int .u8 0, .int .u8 0, .int .u8 0, .int .u8 0, .int .u8 0, .int .u8 0, .int .u8 0, .int .u8 0, .int .u8 0, .int .u8 0, .int .u8 0, .int .u8 0, .int .u8 0, .int .u8 0, .int .u8 0, .slice none 0 0, .map none] := ⟨Try.runUnderlying92, Try.sizeOf151, ⟨_, Try.zeroValue151, rfl⟩, rfl, rfl⟩
theorem L99 : Sli Try.prog 99 80 1 [.int .i8 0] := ⟨Try.runUnderlying99, Try.sizeOf80, ⟨_, Try.zeroValue80, rfl⟩, rfl, rfl⟩
theorem S101 : Stru Try.prog 101 [(0, 1), (1, 1), (2, 1), (3, 16), (19, 1), (20, 1), (21, 1), (22, 1), (23, 1), (24, 1), (25, 1)] [.int .i16 0, .int .i32 0, .int .i16 0, .int .u8 0, .int .u8 0, .int .u8 0, .int .u8 0, .int .u8 0, .int .u8 0, .int .u8 0, .int .u8 0, .int .u8 0, .int .u8 0, .int .u8 0, .int .u8 0, .int .u8 0, .int .u8 0, .int .u8 0, .int .u8 0, .int .i32 0, .slice none 0 0, .int .i32 0, .int .i32 0, .bool false, .slice none 0 0, .map none] := ⟨Try.zeroValue101, _, Try.runUnderlying101, fun w => by kernel_rfl⟩
theorem S107 : Stru Try.prog 107 [(0, 1), (1, 1), (2, 1), (3, 1)] [.int .i16 0, .int .i32 0, .slice none 0 0, .map none] := ⟨Try.zeroValue107, _, Try.runUnderlying107, fun w => by kernel_rfl⟩
theorem S113 : Stru Try.prog 113 [(0, 1), (1, 1), (2, 1), (3, 1), (4, 1), (5, 1), (6, 1), (7, 1), (8, 1), (9, 1)] [.int .i16 0, .string ⟨#[]⟩, .int .i32 0, .int .i32 0, .string ⟨#[]⟩, .pointer none, .string ⟨#[]⟩, .slice none 0 0, .pointer none, .map none] := ⟨Try.zeroValue113, _, Try.runUnderlying113, fun w => by kernel_rfl⟩
theorem S119 : Stru Try.prog 119 [(0, 1), (1, 1), (2, 1), (3, 1), (4, 1), (5, 1)] [.int .i16 0, .int .i32 0, .int .i16 0, .pointer none, .slice none 0 0, .map none] := ⟨Try.zeroValue119, _, Try.runUnderlying119, fun w => by kernel_rfl⟩
theorem S125 : Stru Try.prog 125 [(0, 1), (1, 1), (2, 1), (3, 1), (4, 1)] [.int .i16 0, .int .i32 0, .int .i16 0, .slice none 0 0, .map none] := ⟨Try.zeroValue125, _, Try.runUnderlying125, fun w => by kernel_rfl⟩
theorem S26 : Stru Try.prog 26 [(0, 1), (1, 1), (2, 1), (3, 1), (4, 1)] [.int .i64 0, .slice none 0 0, .bool false, .slice none 0 0, .slice none 0 0] := ⟨Try.zeroValue26, _, Try.runUnderlying26, fun w => by kernel_rfl⟩
theorem S31 : Stru Try.prog 31 [(0, 1), (1, 1)] [.slice none 0 0, .int .i64 0] := ⟨Try.zeroValue31, _, Try.runUnderlying31, fun w => by kernel_rfl⟩
theorem S39 : Stru Try.prog 39 [(0, 1), (1, 1), (2, 1), (3, 1), (4, 1)] [.int .i64 0, .slice none 0 0, .bool false, .slice none 0 0, .slice none 0 0] := ⟨Try.zeroValue39, _, Try.runUnderlying39, fun w => by kernel_rfl⟩
theorem S50 : Stru Try.prog 50 [(0, 1), (1, 1), (2, 1), (3, 1), (4, 1), (5, 1), (6, 1), (7, 1)] [.int .i64 0, .int .i64 0, .int .i64 0, .int .i64 0, .int .i64 0, .int .i64 0, .int .i64 0, .slice none 0 0] := ⟨Try.zeroValue50, _, Try.runUnderlying50, fun w => by kernel_rfl⟩
theorem S56 : Stru Try.prog 56 [(0, 1), (1, 1), (2, 1), (3, 1), (4, 1)] [.int .i16 0, .int .i32 0, .int .i16 0, .pointer none, .map none] := ⟨Try.zeroValue56, _, Try.runUnderlying56, fun w => by kernel_rfl⟩
theorem S62 : Stru Try.prog 62 [(0, 1), (1, 1)] [.int .u32 0, .slice none 0 0] := ⟨Try.zeroValue62, _, Try.runUnderlying62, fun w => by kernel_rfl⟩
theorem S63 : Stru Try.prog 63 [(0, 1), (1, 1)] [.int .u32 0, .slice none 0 0] := ⟨Try.zeroValue63, _, Try.runUnderlying63, fun w => by kernel_rfl⟩
theorem S70 : Stru Try.prog 70 [(0, 1), (1, 1), (2, 1), (3, 1), (4, 1)] [.int .i16 0, .int .i32 0, .int .i16 0, .pointer none, .map none] := ⟨Try.zeroValue70, _, Try.runUnderlying70, fun w => by kernel_rfl⟩
theorem S76 : Stru Try.prog 76 [(0, 1), (1, 1), (2, 1), (3, 1)] [.int .i16 0, .slice none 0 0, .bool false, .map none] := ⟨Try.zeroValue76, _, Try.runUnderlying76, fun w => by kernel_rfl⟩
theorem S82 : Stru Try.prog 82 [(0, 1), (1, 1), (2, 1), (3, 1), (4, 1)] [.int .i16 0, .string ⟨#[]⟩, .int .i8 0, .slice none 0 0, .map none] := ⟨Try.zeroValue82, _, Try.runUnderlying82, fun w => by kernel_rfl⟩
theorem S87 : Stru Try.prog 87 [(0, 1), (1, 1), (2, 1), (3, 1), (4, 1), (5, 1), (6, 1)] [.int .i16 0, .int .i32 0, .int .i16 0, .pointer none, .pointer none, .slice none 0 0, .map none] := ⟨Try.zeroValue87, _, Try.runUnderlying87, fun w => by kernel_rfl⟩
theorem S94 : Stru Try.prog 94 [(0, 1), (1, 1), (2, 1), (3, 1)] [.int .i16 0, .string ⟨#[]⟩, .slice none 0 0, .map none] := ⟨Try.zeroValue94, _, Try.runUnderlying94, fun w => by kernel_rfl⟩
end Go.Sx

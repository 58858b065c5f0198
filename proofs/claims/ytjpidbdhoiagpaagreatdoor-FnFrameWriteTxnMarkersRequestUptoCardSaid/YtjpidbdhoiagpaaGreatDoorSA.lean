import Derived.Test.YtjpidbdhoiagpaaGreatDoorProg
import Derived.Test.YtjpidbdhoiagpaaGreatDoorLibF
import Derived.Deep.QuietTactic
import Derived.Lib.RowBridge
import Derived.Lib.SortBridge
import Derived.WalkKit
import Derived.Laws.Externs
import Derived.KernelRfl
set_option linter.unusedVariables false
set_option linter.unusedSimpArgs false
namespace Go.Sx
open Go.Proofs Go.Shelf Go.Lib Go.Sort Go.RowKit
def sRen : Go.Shelf.Ren := ⟨fun | 6 => 166 | 10 => 168 | 11 => 169 | 12 => 170 | 13 => 171 | 14 => 172 | 24 => 165 | 25 => 182 | 26 => 183 | 27 => 184 | 28 => 185 | 29 => 186 | 30 => 187 | 31 => 188 | 32 => 189 | 33 => 190 | 34 => 191 | 35 => 192 | 36 => 193 | 37 => 194 | 38 => 195 | 39 => 196 | n => n, fun | 0 => 0 | 3 => 3 | 4 => 4 | 5 => 5 | 9 => 9 | 12 => 12 | 17 => 17 | 20 => 20 | 26 => 202 | 32 => 203 | 33 => 204 | 35 => 206 | 37 => 208 | 41 => 116 | 44 => 213 | 49 => 67 | 51 => 83 | 53 => 219 | 54 => 220 | 58 => 224 | 60 => 226 | 64 => 229 | 66 => 231 | 67 => 232 | 75 => 187 | 76 => 188 | 77 => 189 | 78 => 190 | 79 => 191 | 80 => 192 | 82 => 194 | n => n, fun | n => n⟩
theorem sLays : LaysGg.n6 Tryz.prog sRen where
 mixed := by kernel_rfl
 f6 := Tryz.func166.trans (congrArg some (by kernel_rfl))
 f10 := Tryz.func168.trans (congrArg some (by kernel_rfl))
 f11 := Tryz.func169.trans (congrArg some (by kernel_rfl))
 f12 := Tryz.func170.trans (congrArg some (by kernel_rfl))
 f13 := Tryz.func171.trans (congrArg some (by kernel_rfl))
 f14 := Tryz.func172.trans (congrArg some (by kernel_rfl))
 f24 := Tryz.func165.trans (congrArg some (by kernel_rfl))
 f25 := Tryz.func182.trans (congrArg some (by kernel_rfl))
 f26 := Tryz.func183.trans (congrArg some (by kernel_rfl))
 f27 := Tryz.func184.trans (congrArg some (by kernel_rfl))
 f28 := Tryz.func185.trans (congrArg some (by kernel_rfl))
 f29 := Tryz.func186.trans (congrArg some (by kernel_rfl))
 f30 := Tryz.func187.trans (congrArg some (by kernel_rfl))
 f31 := Tryz.func188.trans (congrArg some (by kernel_rfl))
 f32 := Tryz.func189.trans (congrArg some (by kernel_rfl))
 f33 := Tryz.func190.trans (congrArg some (by kernel_rfl))
 f34 := Tryz.func191.trans (congrArg some (by kernel_rfl))
 f35 := Tryz.func192.trans (congrArg some (by kernel_rfl))
 f36 := Tryz.func193.trans (congrArg some (by kernel_rfl))
 f37 := Tryz.func194.trans (congrArg some (by kernel_rfl))
 f38 := Tryz.func195.trans (congrArg some (by kernel_rfl))
 f39 := Tryz.func196.trans (congrArg some (by kernel_rfl))
 t0 := Tryz.underlying0
 a0 := Tryz.isAgg0
 z0 := Tryz.sizeOf0
 v0 := Tryz.zeroValue0
 i0 := by kernel_rfl
 t3 := Tryz.underlying3
 a3 := Tryz.isAgg3
 z3 := Tryz.sizeOf3
 v3 := Tryz.zeroValue3
 i3 := by kernel_rfl
 t4 := Tryz.underlying4
 a4 := Tryz.isAgg4
 z4 := Tryz.sizeOf4
 v4 := Tryz.zeroValue4
 i4 := by kernel_rfl
 t5 := Tryz.underlying5
 a5 := Tryz.isAgg5
 z5 := Tryz.sizeOf5
 v5 := Tryz.zeroValue5
 i5 := by kernel_rfl
 t9 := Tryz.underlying9
 a9 := Tryz.isAgg9
 z9 := Tryz.sizeOf9
 v9 := Tryz.zeroValue9
 i9 := by kernel_rfl
 t12 := Tryz.underlying12
 a12 := Tryz.isAgg12
 z12 := Tryz.sizeOf12
 v12 := Tryz.zeroValue12
 i12 := by kernel_rfl
 t17 := Tryz.underlying17
 a17 := Tryz.isAgg17
 z17 := Tryz.sizeOf17
 v17 := Tryz.zeroValue17
 i17 := by kernel_rfl
 t20 := Tryz.underlying20
 a20 := Tryz.isAgg20
 z20 := Tryz.sizeOf20
 v20 := Tryz.zeroValue20
 i20 := by kernel_rfl
 t26 := Tryz.underlying202
 a26 := Tryz.isAgg202
 z26 := Tryz.sizeOf202
 v26 := Tryz.zeroValue202
 i26 := by kernel_rfl
 t32 := Tryz.underlying203
 a32 := Tryz.isAgg203
 z32 := Tryz.sizeOf203
 v32 := Tryz.zeroValue203
 i32 := by kernel_rfl
 t33 := Tryz.underlying204
 a33 := Tryz.isAgg204
 z33 := Tryz.sizeOf204
 v33 := Tryz.zeroValue204
 i33 := by kernel_rfl
 t35 := Tryz.underlying206
 a35 := Tryz.isAgg206
 z35 := Tryz.sizeOf206
 v35 := Tryz.zeroValue206
 i35 := by kernel_rfl
 t37 := Tryz.underlying208
 a37 := Tryz.isAgg208
 z37 := Tryz.sizeOf208
 v37 := Tryz.zeroValue208
 i37 := by kernel_rfl
 t41 := Tryz.underlying116
 a41 := Tryz.isAgg116
 z41 := Tryz.sizeOf116
 v41 := Tryz.zeroValue116
 i41 := by kernel_rfl
 t44 := Tryz.underlying213
 a44 := Tryz.isAgg213
 z44 := Tryz.sizeOf213
 v44 := Tryz.zeroValue213
 i44 := by kernel_rfl
 t49 := Tryz.underlying67
 a49 := Tryz.isAgg67
 z49 := Tryz.sizeOf67
 v49 := Tryz.zeroValue67
 i49 := by kernel_rfl
 t51 := Tryz.underlying83
 a51 := Tryz.isAgg83
 z51 := Tryz.sizeOf83
 v51 := Tryz.zeroValue83
 i51 := by kernel_rfl
 t53 := Tryz.underlying219
 a53 := Tryz.isAgg219
 z53 := Tryz.sizeOf219
 v53 := Tryz.zeroValue219
 i53 := by kernel_rfl
 t54 := Tryz.underlying220
 a54 := Tryz.isAgg220
 z54 := Tryz.sizeOf220
 v54 := Tryz.zeroValue220
 i54 := by kernel_rfl
 t58 := Tryz.underlying224
 a58 := Tryz.isAgg224
 z58 := Tryz.sizeOf224
 v58 := Tryz.zeroValue224
 i58 := by kernel_rfl
 t60 := Tryz.underlying226
 a60 := Tryz.isAgg226
 z60 := Tryz.sizeOf226
 v60 := Tryz.zeroValue226
 i60 := by kernel_rfl
 t64 := Tryz.underlying229
 a64 := Tryz.isAgg229
 z64 := Tryz.sizeOf229
 v64 := Tryz.zeroValue229
 i64 := by kernel_rfl
 t66 := Tryz.underlying231
 a66 := Tryz.isAgg231
 z66 := Tryz.sizeOf231
 v66 := Tryz.zeroValue231
 i66 := by kernel_rfl
 t67 := Tryz.underlying232
 a67 := Tryz.isAgg232
 z67 := Tryz.sizeOf232
 v67 := Tryz.zeroValue232
 i67 := by kernel_rfl
 t75 := Tryz.underlying187
 a75 := Tryz.isAgg187
 z75 := Tryz.sizeOf187
 v75 := Tryz.zeroValue187
 i75 := by kernel_rfl
 t76 := Tryz.underlying188
 a76 := Tryz.isAgg188
 z76 := Tryz.sizeOf188
 v76 := Tryz.zeroValue188
 i76 := by kernel_rfl
 t77 := Tryz.underlying189
 a77 := Tryz.isAgg189
 z77 := Tryz.sizeOf189
 v77 := Tryz.zeroValue189
 i77 := by kernel_rfl
 t78 := Tryz.underlying190
 a78 := Tryz.isAgg190
 z78 := Tryz.sizeOf190
 v78 := Tryz.zeroValue190
 i78 := by kernel_rfl
 t79 := Tryz.underlying191
 a79 := Tryz.isAgg191
 z79 := Tryz.sizeOf191
 v79 := Tryz.zeroValue191
 i79 := by kernel_rfl
 t80 := Tryz.underlying192
 a80 := Tryz.isAgg192
 z80 := Tryz.sizeOf192
 v80 := Tryz.zeroValue192
 i80 := by kernel_rfl
 t82 := Tryz.underlying194
 a82 := Tryz.isAgg194
 z82 := Tryz.sizeOf194
 v82 := Tryz.zeroValue194
 i82 := by kernel_rfl
noncomputable def siT : TypeInfo := (Tryz.prog.info? 200).get (by kernel_rfl)
noncomputable def siE : TypeInfo := (Tryz.prog.info? 67).get (by kernel_rfl)
theorem siK (n : Nat) (h2 : 2 ≤ n) : Lib.swapperK n siE 10 = 6 := by
 have a : siE.hasPointers = false := by kernel_rfl
 have b : siE.bytes = 4 := by kernel_rfl
 have c : (n == 0) = false := by simp; omega
 have d : (n == 1) = false := by simp; omega
 simp [Lib.swapperK, a, b, c, d]
theorem siS (n : Nat) (h1 : n ≤ 1) : Lib.swapperK n siE 10 = n + 1 := by
 rcases Nat.eq_zero_or_pos n with h | h
 · subst h; simp [Lib.swapperK]
 ·
  obtain rfl : n = 1 := by omega
  simp [Lib.swapperK]
theorem sortEnv : SortEnv Tryz.prog sRen 200 67 siT siE 10 where
 lays := sLays
 hi := by kernel_rfl
 hd := by kernel_rfl
 hpk := by kernel_rfl
 hie := by kernel_rfl
 hke := fun _ => by kernel_rfl
 hs1 := by kernel_rfl
 hagg := fun _ => by kernel_rfl
 tiny := fun n h1 => by
  rw [siS n h1]
  rcases Nat.eq_zero_or_pos n with h | h
  · subst h; exact ⟨173, by kernel_rfl⟩
  ·
   obtain rfl : n = 1 := by omega
   exact ⟨174, by kernel_rfl⟩
 big := fun n h2 => ⟨178, true, by rw [siK n h2]; kernel_rfl, fun args W => run_callFunc_extern Tryz.func178 (by kernel_rfl) (by kernel_rfl) (by kernel_rfl) (e := Extern.ReflectliteSwapper.swap true) (by kernel_rfl) args W⟩
set_option maxHeartbeats 2000000 in
theorem less_u32 : LessU Tryz.prog 167 := by
 intro blk off c Bs size W G hs hc i j hi hj
 have ci := hc i hi
 have cj := hc j hj
 go_enter Tryz.func167, Tryz.ntmps167
 go_wp2
 go_quiet (fail)
 go_wp2
 go_ret
 exact ⟨rfl, nq, rfl⟩
theorem k_sort {bx : Nat} {ks : List Int} {a : Option Addr} {n cap U e' : Nat} {N : Chunk} {H : Fz} {L : Own} (hr : Row e' 1 a n cap (u32s ks) N) (h62 : n < 4611686018427387904) :
  Fn Tryz.prog 166 [.iface 200 (.slice a n cap), .func (.func 167) #[] [.pointer (some ⟨bx, 0, none⟩)].toArray] H (N :: [(bx, .cells [.slice a n cap].toArray U (0, 0))] :: L)
   (fun _ H' L' => H = H' ∧ ∃ N', L' = N' :: [(bx, .cells [.slice a n cap].toArray U (0, 0))] :: L ∧ Row e' 1 a n cap (u32s (srt ks)) N') :=
 sort_fn sortEnv Tryz.call166 Tryz.call167 less_u32 hr h62
end Go.Sx

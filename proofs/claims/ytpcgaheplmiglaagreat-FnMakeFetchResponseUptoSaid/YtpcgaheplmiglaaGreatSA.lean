import Derived.Test.YtpcgaheplmiglaaGreatProg
import Derived.Test.YtpcgaheplmiglaaGreatLibF
import Derived.Deep.QuietTactic
import Derived.Lib.RowBridge
import Derived.Lib.SortBridge
import Derived.WalkKit
import Derived.Laws.Externs
import Derived.KernelRfl
set_option linter.unusedVariables false
set_option linter.unusedSimpArgs false
namespace Go.Sx
open Go.Proofs Go.Shelf Go.Lib Go.Sort Go.RowKit
def sRen : Go.Shelf.Ren := ⟨fun | 6 => 92 | 10 => 94 | 11 => 95 | 12 => 96 | 13 => 97 | 14 => 98 | 24 => 91 | 25 => 108 | 26 => 109 | 27 => 110 | 28 => 111 | 29 => 112 | 30 => 113 | 31 => 114 | 32 => 115 | 33 => 116 | 34 => 117 | 35 => 118 | 36 => 119 | 37 => 120 | 38 => 121 | 39 => 122 | n => n, fun | 0 => 0 | 3 => 3 | 4 => 4 | 5 => 5 | 9 => 9 | 12 => 12 | 17 => 17 | 20 => 20 | 26 => 146 | 32 => 148 | 33 => 149 | 35 => 151 | 37 => 153 | 41 => 130 | 44 => 158 | 49 => 62 | 51 => 121 | 53 => 164 | 54 => 165 | 58 => 169 | 60 => 171 | 64 => 175 | 66 => 177 | 67 => 178 | 75 => 186 | 76 => 187 | 77 => 188 | 78 => 189 | 79 => 190 | 80 => 191 | 82 => 193 | n => n, fun | n => n⟩
theorem sLays : LaysGg.n6 Tryz.prog sRen where
 mixed := by kernel_rfl
 f6 := Tryz.func92.trans (congrArg some (by kernel_rfl))
 f10 := Tryz.func94.trans (congrArg some (by kernel_rfl))
 f11 := Tryz.func95.trans (congrArg some (by kernel_rfl))
 f12 := Tryz.func96.trans (congrArg some (by kernel_rfl))
 f13 := Tryz.func97.trans (congrArg some (by kernel_rfl))
 f14 := Tryz.func98.trans (congrArg some (by kernel_rfl))
 f24 := Tryz.func91.trans (congrArg some (by kernel_rfl))
 f25 := Tryz.func108.trans (congrArg some (by kernel_rfl))
 f26 := Tryz.func109.trans (congrArg some (by kernel_rfl))
 f27 := Tryz.func110.trans (congrArg some (by kernel_rfl))
 f28 := Tryz.func111.trans (congrArg some (by kernel_rfl))
 f29 := Tryz.func112.trans (congrArg some (by kernel_rfl))
 f30 := Tryz.func113.trans (congrArg some (by kernel_rfl))
 f31 := Tryz.func114.trans (congrArg some (by kernel_rfl))
 f32 := Tryz.func115.trans (congrArg some (by kernel_rfl))
 f33 := Tryz.func116.trans (congrArg some (by kernel_rfl))
 f34 := Tryz.func117.trans (congrArg some (by kernel_rfl))
 f35 := Tryz.func118.trans (congrArg some (by kernel_rfl))
 f36 := Tryz.func119.trans (congrArg some (by kernel_rfl))
 f37 := Tryz.func120.trans (congrArg some (by kernel_rfl))
 f38 := Tryz.func121.trans (congrArg some (by kernel_rfl))
 f39 := Tryz.func122.trans (congrArg some (by kernel_rfl))
 t0 := Tryz.underlying0
 a0 := Tryz.isAgg0
 z0 := Tryz.sizeOf0
 v0 := Tryz.zeroValue0
 i0 := by kernel_rfl
 t3 := Tryz.underlying3
 a3 := Tryz.isAgg3
 z3 := Tryz.sizeOf3
 v3 := Tryz.zeroValue3
 i3 := by kernel_rfl
 t4 := Tryz.underlying4
 a4 := Tryz.isAgg4
 z4 := Tryz.sizeOf4
 v4 := Tryz.zeroValue4
 i4 := by kernel_rfl
 t5 := Tryz.underlying5
 a5 := Tryz.isAgg5
 z5 := Tryz.sizeOf5
 v5 := Tryz.zeroValue5
 i5 := by kernel_rfl
 t9 := Tryz.underlying9
 a9 := Tryz.isAgg9
 z9 := Tryz.sizeOf9
 v9 := Tryz.zeroValue9
 i9 := by kernel_rfl
 t12 := Tryz.underlying12
 a12 := Tryz.isAgg12
 z12 := Tryz.sizeOf12
 v12 := Tryz.zeroValue12
 i12 := by kernel_rfl
 t17 := Tryz.underlying17
 a17 := Tryz.isAgg17
 z17 := Tryz.sizeOf17
 v17 := Tryz.zeroValue17
 i17 := by kernel_rfl
 t20 := Tryz.underlying20
 a20 := Tryz.isAgg20
 z20 := Tryz.sizeOf20
 v20 := Tryz.zeroValue20
 i20 := by kernel_rfl
 t26 := Tryz.underlying146
 a26 := Tryz.isAgg146
 z26 := Tryz.sizeOf146
 v26 := Tryz.zeroValue146
 i26 := by kernel_rfl
 t32 := Tryz.underlying148
 a32 := Tryz.isAgg148
 z32 := Tryz.sizeOf148
 v32 := Tryz.zeroValue148
 i32 := by kernel_rfl
 t33 := Tryz.underlying149
 a33 := Tryz.isAgg149
 z33 := Tryz.sizeOf149
 v33 := Tryz.zeroValue149
 i33 := by kernel_rfl
 t35 := Tryz.underlying151
 a35 := Tryz.isAgg151
 z35 := Tryz.sizeOf151
 v35 := Tryz.zeroValue151
 i35 := by kernel_rfl
 t37 := Tryz.underlying153
 a37 := Tryz.isAgg153
 z37 := Tryz.sizeOf153
 v37 := Tryz.zeroValue153
 i37 := by kernel_rfl
 t41 := Tryz.underlying130
 a41 := Tryz.isAgg130
 z41 := Tryz.sizeOf130
 v41 := Tryz.zeroValue130
 i41 := by kernel_rfl
 t44 := Tryz.underlying158
 a44 := Tryz.isAgg158
 z44 := Tryz.sizeOf158
 v44 := Tryz.zeroValue158
 i44 := by kernel_rfl
 t49 := Tryz.underlying62
 a49 := Tryz.isAgg62
 z49 := Tryz.sizeOf62
 v49 := Tryz.zeroValue62
 i49 := by kernel_rfl
 t51 := Tryz.underlying121
 a51 := Tryz.isAgg121
 z51 := Tryz.sizeOf121
 v51 := Tryz.zeroValue121
 i51 := by kernel_rfl
 t53 := Tryz.underlying164
 a53 := Tryz.isAgg164
 z53 := Tryz.sizeOf164
 v53 := Tryz.zeroValue164
 i53 := by kernel_rfl
 t54 := Tryz.underlying165
 a54 := Tryz.isAgg165
 z54 := Tryz.sizeOf165
 v54 := Tryz.zeroValue165
 i54 := by kernel_rfl
 t58 := Tryz.underlying169
 a58 := Tryz.isAgg169
 z58 := Tryz.sizeOf169
 v58 := Tryz.zeroValue169
 i58 := by kernel_rfl
 t60 := Tryz.underlying171
 a60 := Tryz.isAgg171
 z60 := Tryz.sizeOf171
 v60 := Tryz.zeroValue171
 i60 := by kernel_rfl
 t64 := Tryz.underlying175
 a64 := Tryz.isAgg175
 z64 := Tryz.sizeOf175
 v64 := Tryz.zeroValue175
 i64 := by kernel_rfl
 t66 := Tryz.underlying177
 a66 := Tryz.isAgg177
 z66 := Tryz.sizeOf177
 v66 := Tryz.zeroValue177
 i66 := by kernel_rfl
 t67 := Tryz.underlying178
 a67 := Tryz.isAgg178
 z67 := Tryz.sizeOf178
 v67 := Tryz.zeroValue178
 i67 := by kernel_rfl
 t75 := Tryz.underlying186
 a75 := Tryz.isAgg186
 z75 := Tryz.sizeOf186
 v75 := Tryz.zeroValue186
 i75 := by kernel_rfl
 t76 := Tryz.underlying187
 a76 := Tryz.isAgg187
 z76 := Tryz.sizeOf187
 v76 := Tryz.zeroValue187
 i76 := by kernel_rfl
 t77 := Tryz.underlying188
 a77 := Tryz.isAgg188
 z77 := Tryz.sizeOf188
 v77 := Tryz.zeroValue188
 i77 := by kernel_rfl
 t78 := Tryz.underlying189
 a78 := Tryz.isAgg189
 z78 := Tryz.sizeOf189
 v78 := Tryz.zeroValue189
 i78 := by kernel_rfl
 t79 := Tryz.underlying190
 a79 := Tryz.isAgg190
 z79 := Tryz.sizeOf190
 v79 := Tryz.zeroValue190
 i79 := by kernel_rfl
 t80 := Tryz.underlying191
 a80 := Tryz.isAgg191
 z80 := Tryz.sizeOf191
 v80 := Tryz.zeroValue191
 i80 := by kernel_rfl
 t82 := Tryz.underlying193
 a82 := Tryz.isAgg193
 z82 := Tryz.sizeOf193
 v82 := Tryz.zeroValue193
 i82 := by kernel_rfl
noncomputable def siT : TypeInfo := (Tryz.prog.info? 105).get (by kernel_rfl)
noncomputable def siE : TypeInfo := (Tryz.prog.info? 62).get (by kernel_rfl)
theorem siK (n : Nat) (h2 : 2 ≤ n) : Lib.swapperK n siE 10 = 6 := by
 have a : siE.hasPointers = false := by kernel_rfl
 have b : siE.bytes = 4 := by kernel_rfl
 have c : (n == 0) = false := by simp; omega
 have d : (n == 1) = false := by simp; omega
 simp [Lib.swapperK, a, b, c, d]
theorem siS (n : Nat) (h1 : n ≤ 1) : Lib.swapperK n siE 10 = n + 1 := by
 rcases Nat.eq_zero_or_pos n with h | h
 · subst h; simp [Lib.swapperK]
 ·
  obtain rfl : n = 1 := by omega
  simp [Lib.swapperK]
theorem sortEnv : SortEnv Tryz.prog sRen 105 62 siT siE 10 where
 lays := sLays
 hi := by kernel_rfl
 hd := by kernel_rfl
 hpk := by kernel_rfl
 hie := by kernel_rfl
 hke := fun _ => by kernel_rfl
 hs1 := by kernel_rfl
 hagg := fun _ => by kernel_rfl
 tiny := fun n h1 => by
  rw [siS n h1]
  rcases Nat.eq_zero_or_pos n with h | h
  · subst h; exact ⟨99, by kernel_rfl⟩
  ·
   obtain rfl : n = 1 := by omega
   exact ⟨100, by kernel_rfl⟩
 big := fun n h2 => ⟨104, true, by rw [siK n h2]; kernel_rfl, fun args W => run_callFunc_extern Tryz.func104 (by kernel_rfl) (by kernel_rfl) (by kernel_rfl) (e := Extern.ReflectliteSwapper.swap true) (by kernel_rfl) args W⟩
set_option maxHeartbeats 2000000 in
theorem less_u32 : LessU Tryz.prog 93 := by
 intro blk off c Bs size W G hs hc i j hi hj
 have ci := hc i hi
 have cj := hc j hj
 go_enter Tryz.func93, Tryz.ntmps93
 go_wp2
 go_quiet (fail)
 go_wp2
 go_ret
 exact ⟨rfl, nq, rfl⟩
theorem k_sort {bx : Nat} {ks : List Int} {a : Option Addr} {n cap U e' : Nat} {N : Chunk} {H : Fz} {L : Own} (hr : Row e' 1 a n cap (u32s ks) N) (h62 : n < 4611686018427387904) :
  Fn Tryz.prog 92 [.iface 105 (.slice a n cap), .func (.func 93) #[] [.pointer (some ⟨bx, 0, none⟩)].toArray] H (N :: [(bx, .cells [.slice a n cap].toArray U (0, 0))] :: L)
   (fun _ H' L' => H = H' ∧ ∃ N', L' = N' :: [(bx, .cells [.slice a n cap].toArray U (0, 0))] :: L ∧ Row e' 1 a n cap (u32s (srt ks)) N') :=
 sort_fn sortEnv Tryz.call92 Tryz.call93 less_u32 hr h62
end Go.Sx

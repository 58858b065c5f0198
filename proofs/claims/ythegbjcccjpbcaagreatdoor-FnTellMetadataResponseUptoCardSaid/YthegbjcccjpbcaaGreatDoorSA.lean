import Derived.Test.YthegbjcccjpbcaaGreatDoorProg
import Derived.Test.YthegbjcccjpbcaaGreatDoorLibF
import Derived.Deep.QuietTactic
import Derived.Lib.RowBridge
import Derived.Lib.SortBridge
import Derived.WalkKit
import Derived.Laws.Externs
import Derived.KernelRfl
set_option linter.unusedVariables false
set_option linter.unusedSimpArgs false
namespace Go.Sx
open Go.Proofs Go.Shelf Go.Lib Go.Sort Go.RowKit
def sRen : Go.Shelf.Ren := ⟨fun | 6 => 72 | 10 => 83 | 11 => 84 | 12 => 85 | 13 => 86 | 14 => 87 | 24 => 98 | 25 => 99 | 26 => 100 | 27 => 101 | 28 => 102 | 29 => 103 | 30 => 104 | 31 => 105 | 32 => 106 | 33 => 107 | 34 => 108 | 35 => 109 | 36 => 110 | 37 => 111 | 38 => 112 | 39 => 113 | n => n, fun | 0 => 0 | 3 => 3 | 4 => 4 | 5 => 5 | 9 => 9 | 12 => 12 | 17 => 17 | 20 => 20 | 26 => 122 | 32 => 135 | 33 => 136 | 35 => 138 | 37 => 140 | 41 => 125 | 44 => 145 | 49 => 64 | 51 => 97 | 53 => 154 | 54 => 155 | 58 => 159 | 60 => 161 | 64 => 165 | 66 => 167 | 67 => 168 | 75 => 176 | 76 => 177 | 77 => 178 | 78 => 179 | 79 => 180 | 80 => 181 | 82 => 183 | n => n, fun | n => n⟩
theorem sLays : LaysGg.n6 Tryz.prog sRen where
 mixed := by kernel_rfl
 f6 := Tryz.func72.trans (congrArg some (by kernel_rfl))
 f10 := Tryz.func83.trans (congrArg some (by kernel_rfl))
 f11 := Tryz.func84.trans (congrArg some (by kernel_rfl))
 f12 := Tryz.func85.trans (congrArg some (by kernel_rfl))
 f13 := Tryz.func86.trans (congrArg some (by kernel_rfl))
 f14 := Tryz.func87.trans (congrArg some (by kernel_rfl))
 f24 := Tryz.func98.trans (congrArg some (by kernel_rfl))
 f25 := Tryz.func99.trans (congrArg some (by kernel_rfl))
 f26 := Tryz.func100.trans (congrArg some (by kernel_rfl))
 f27 := Tryz.func101.trans (congrArg some (by kernel_rfl))
 f28 := Tryz.func102.trans (congrArg some (by kernel_rfl))
 f29 := Tryz.func103.trans (congrArg some (by kernel_rfl))
 f30 := Tryz.func104.trans (congrArg some (by kernel_rfl))
 f31 := Tryz.func105.trans (congrArg some (by kernel_rfl))
 f32 := Tryz.func106.trans (congrArg some (by kernel_rfl))
 f33 := Tryz.func107.trans (congrArg some (by kernel_rfl))
 f34 := Tryz.func108.trans (congrArg some (by kernel_rfl))
 f35 := Tryz.func109.trans (congrArg some (by kernel_rfl))
 f36 := Tryz.func110.trans (congrArg some (by kernel_rfl))
 f37 := Tryz.func111.trans (congrArg some (by kernel_rfl))
 f38 := Tryz.func112.trans (congrArg some (by kernel_rfl))
 f39 := Tryz.func113.trans (congrArg some (by kernel_rfl))
 t0 := Tryz.underlying0
 a0 := Tryz.isAgg0
 z0 := Tryz.sizeOf0
 v0 := Tryz.zeroValue0
 i0 := by kernel_rfl
 t3 := Tryz.underlying3
 a3 := Tryz.isAgg3
 z3 := Tryz.sizeOf3
 v3 := Tryz.zeroValue3
 i3 := by kernel_rfl
 t4 := Tryz.underlying4
 a4 := Tryz.isAgg4
 z4 := Tryz.sizeOf4
 v4 := Tryz.zeroValue4
 i4 := by kernel_rfl
 t5 := Tryz.underlying5
 a5 := Tryz.isAgg5
 z5 := Tryz.sizeOf5
 v5 := Tryz.zeroValue5
 i5 := by kernel_rfl
 t9 := Tryz.underlying9
 a9 := Tryz.isAgg9
 z9 := Tryz.sizeOf9
 v9 := Tryz.zeroValue9
 i9 := by kernel_rfl
 t12 := Tryz.underlying12
 a12 := Tryz.isAgg12
 z12 := Tryz.sizeOf12
 v12 := Tryz.zeroValue12
 i12 := by kernel_rfl
 t17 := Tryz.underlying17
 a17 := Tryz.isAgg17
 z17 := Tryz.sizeOf17
 v17 := Tryz.zeroValue17
 i17 := by kernel_rfl
 t20 := Tryz.underlying20
 a20 := Tryz.isAgg20
 z20 := Tryz.sizeOf20
 v20 := Tryz.zeroValue20
 i20 := by kernel_rfl
 t26 := Tryz.underlying122
 a26 := Tryz.isAgg122
 z26 := Tryz.sizeOf122
 v26 := Tryz.zeroValue122
 i26 := by kernel_rfl
 t32 := Tryz.underlying135
 a32 := Tryz.isAgg135
 z32 := Tryz.sizeOf135
 v32 := Tryz.zeroValue135
 i32 := by kernel_rfl
 t33 := Tryz.underlying136
 a33 := Tryz.isAgg136
 z33 := Tryz.sizeOf136
 v33 := Tryz.zeroValue136
 i33 := by kernel_rfl
 t35 := Tryz.underlying138
 a35 := Tryz.isAgg138
 z35 := Tryz.sizeOf138
 v35 := Tryz.zeroValue138
 i35 := by kernel_rfl
 t37 := Tryz.underlying140
 a37 := Tryz.isAgg140
 z37 := Tryz.sizeOf140
 v37 := Tryz.zeroValue140
 i37 := by kernel_rfl
 t41 := Tryz.underlying125
 a41 := Tryz.isAgg125
 z41 := Tryz.sizeOf125
 v41 := Tryz.zeroValue125
 i41 := by kernel_rfl
 t44 := Tryz.underlying145
 a44 := Tryz.isAgg145
 z44 := Tryz.sizeOf145
 v44 := Tryz.zeroValue145
 i44 := by kernel_rfl
 t49 := Tryz.underlying64
 a49 := Tryz.isAgg64
 z49 := Tryz.sizeOf64
 v49 := Tryz.zeroValue64
 i49 := by kernel_rfl
 t51 := Tryz.underlying97
 a51 := Tryz.isAgg97
 z51 := Tryz.sizeOf97
 v51 := Tryz.zeroValue97
 i51 := by kernel_rfl
 t53 := Tryz.underlying154
 a53 := Tryz.isAgg154
 z53 := Tryz.sizeOf154
 v53 := Tryz.zeroValue154
 i53 := by kernel_rfl
 t54 := Tryz.underlying155
 a54 := Tryz.isAgg155
 z54 := Tryz.sizeOf155
 v54 := Tryz.zeroValue155
 i54 := by kernel_rfl
 t58 := Tryz.underlying159
 a58 := Tryz.isAgg159
 z58 := Tryz.sizeOf159
 v58 := Tryz.zeroValue159
 i58 := by kernel_rfl
 t60 := Tryz.underlying161
 a60 := Tryz.isAgg161
 z60 := Tryz.sizeOf161
 v60 := Tryz.zeroValue161
 i60 := by kernel_rfl
 t64 := Tryz.underlying165
 a64 := Tryz.isAgg165
 z64 := Tryz.sizeOf165
 v64 := Tryz.zeroValue165
 i64 := by kernel_rfl
 t66 := Tryz.underlying167
 a66 := Tryz.isAgg167
 z66 := Tryz.sizeOf167
 v66 := Tryz.zeroValue167
 i66 := by kernel_rfl
 t67 := Tryz.underlying168
 a67 := Tryz.isAgg168
 z67 := Tryz.sizeOf168
 v67 := Tryz.zeroValue168
 i67 := by kernel_rfl
 t75 := Tryz.underlying176
 a75 := Tryz.isAgg176
 z75 := Tryz.sizeOf176
 v75 := Tryz.zeroValue176
 i75 := by kernel_rfl
 t76 := Tryz.underlying177
 a76 := Tryz.isAgg177
 z76 := Tryz.sizeOf177
 v76 := Tryz.zeroValue177
 i76 := by kernel_rfl
 t77 := Tryz.underlying178
 a77 := Tryz.isAgg178
 z77 := Tryz.sizeOf178
 v77 := Tryz.zeroValue178
 i77 := by kernel_rfl
 t78 := Tryz.underlying179
 a78 := Tryz.isAgg179
 z78 := Tryz.sizeOf179
 v78 := Tryz.zeroValue179
 i78 := by kernel_rfl
 t79 := Tryz.underlying180
 a79 := Tryz.isAgg180
 z79 := Tryz.sizeOf180
 v79 := Tryz.zeroValue180
 i79 := by kernel_rfl
 t80 := Tryz.underlying181
 a80 := Tryz.isAgg181
 z80 := Tryz.sizeOf181
 v80 := Tryz.zeroValue181
 i80 := by kernel_rfl
 t82 := Tryz.underlying183
 a82 := Tryz.isAgg183
 z82 := Tryz.sizeOf183
 v82 := Tryz.zeroValue183
 i82 := by kernel_rfl
noncomputable def siT : TypeInfo := (Tryz.prog.info? 120).get (by kernel_rfl)
noncomputable def siE : TypeInfo := (Tryz.prog.info? 64).get (by kernel_rfl)
theorem siK (n : Nat) (h2 : 2 ≤ n) : Lib.swapperK n siE 10 = 6 := by
 have a : siE.hasPointers = false := by kernel_rfl
 have b : siE.bytes = 4 := by kernel_rfl
 have c : (n == 0) = false := by simp; omega
 have d : (n == 1) = false := by simp; omega
 simp [Lib.swapperK, a, b, c, d]
theorem siS (n : Nat) (h1 : n ≤ 1) : Lib.swapperK n siE 10 = n + 1 := by
 rcases Nat.eq_zero_or_pos n with h | h
 · subst h; simp [Lib.swapperK]
 ·
  obtain rfl : n = 1 := by omega
  simp [Lib.swapperK]
theorem sortEnv : SortEnv Tryz.prog sRen 120 64 siT siE 10 where
 lays := sLays
 hi := by kernel_rfl
 hd := by kernel_rfl
 hpk := by kernel_rfl
 hie := by kernel_rfl
 hke := fun _ => by kernel_rfl
 hs1 := by kernel_rfl
 hagg := fun _ => by kernel_rfl
 tiny := fun n h1 => by
  rw [siS n h1]
  rcases Nat.eq_zero_or_pos n with h | h
  · subst h; exact ⟨89, by kernel_rfl⟩
  ·
   obtain rfl : n = 1 := by omega
   exact ⟨90, by kernel_rfl⟩
 big := fun n h2 => ⟨94, true, by rw [siK n h2]; kernel_rfl, fun args W => run_callFunc_extern Tryz.func94 (by kernel_rfl) (by kernel_rfl) (by kernel_rfl) (e := Extern.ReflectliteSwapper.swap true) (by kernel_rfl) args W⟩
set_option maxHeartbeats 2000000 in
theorem less_u32 : LessU Tryz.prog 73 := by
 intro blk off c Bs size W G hs hc i j hi hj
 have ci := hc i hi
 have cj := hc j hj
 go_enter Tryz.func73, Tryz.ntmps73
 go_wp2
 go_quiet (fail)
 go_wp2
 go_ret
 exact ⟨rfl, nq, rfl⟩
theorem k_sort {bx : Nat} {ks : List Int} {a : Option Addr} {n cap U e' : Nat} {N : Chunk} {H : Fz} {L : Own} (hr : Row e' 1 a n cap (u32s ks) N) (h62 : n < 4611686018427387904) :
  Fn Tryz.prog 72 [.iface 120 (.slice a n cap), .func (.func 73) #[] [.pointer (some ⟨bx, 0, none⟩)].toArray] H (N :: [(bx, .cells [.slice a n cap].toArray U (0, 0))] :: L)
   (fun _ H' L' => H = H' ∧ ∃ N', L' = N' :: [(bx, .cells [.slice a n cap].toArray U (0, 0))] :: L ∧ Row e' 1 a n cap (u32s (srt ks)) N') :=
 sort_fn sortEnv Tryz.call72 Tryz.call73 less_u32 hr h62
end Go.Sx

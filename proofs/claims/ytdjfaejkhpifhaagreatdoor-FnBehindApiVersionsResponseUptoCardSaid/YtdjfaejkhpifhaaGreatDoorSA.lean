import Derived.Test.YtdjfaejkhpifhaaGreatDoorProg
import Derived.Test.YtdjfaejkhpifhaaGreatDoorLibF
import Derived.Deep.QuietTactic
import Derived.Lib.RowBridge
import Derived.Lib.SortBridge
import Derived.WalkKit
import Derived.Laws.Externs
import Derived.KernelRfl
set_option linter.unusedVariables false
set_option linter.unusedSimpArgs false
namespace Go.Sx
open Go.Proofs Go.Shelf Go.Lib Go.Sort Go.RowKit
def sRen : Go.Shelf.Ren := ⟨fun | 6 => 97 | 10 => 100 | 11 => 101 | 12 => 102 | 13 => 103 | 14 => 104 | 24 => 96 | 25 => 115 | 26 => 116 | 27 => 117 | 28 => 118 | 29 => 119 | 30 => 120 | 31 => 121 | 32 => 122 | 33 => 123 | 34 => 124 | 35 => 125 | 36 => 126 | 37 => 127 | 38 => 128 | 39 => 129 | n => n, fun | 0 => 0 | 3 => 3 | 4 => 4 | 5 => 5 | 9 => 9 | 12 => 12 | 17 => 17 | 20 => 20 | 26 => 141 | 32 => 143 | 33 => 144 | 35 => 146 | 37 => 148 | 41 => 115 | 44 => 153 | 49 => 55 | 51 => 72 | 53 => 160 | 54 => 161 | 58 => 165 | 60 => 167 | 64 => 170 | 66 => 172 | 67 => 173 | 75 => 181 | 76 => 182 | 77 => 183 | 78 => 184 | 79 => 185 | 80 => 186 | 82 => 188 | n => n, fun | n => n⟩
theorem sLays : LaysGg.n6 Tryz.prog sRen where
 mixed := by kernel_rfl
 f6 := Tryz.func97.trans (congrArg some (by kernel_rfl))
 f10 := Tryz.func100.trans (congrArg some (by kernel_rfl))
 f11 := Tryz.func101.trans (congrArg some (by kernel_rfl))
 f12 := Tryz.func102.trans (congrArg some (by kernel_rfl))
 f13 := Tryz.func103.trans (congrArg some (by kernel_rfl))
 f14 := Tryz.func104.trans (congrArg some (by kernel_rfl))
 f24 := Tryz.func96.trans (congrArg some (by kernel_rfl))
 f25 := Tryz.func115.trans (congrArg some (by kernel_rfl))
 f26 := Tryz.func116.trans (congrArg some (by kernel_rfl))
 f27 := Tryz.func117.trans (congrArg some (by kernel_rfl))
 f28 := Tryz.func118.trans (congrArg some (by kernel_rfl))
 f29 := Tryz.func119.trans (congrArg some (by kernel_rfl))
 f30 := Tryz.func120.trans (congrArg some (by kernel_rfl))
 f31 := Tryz.func121.trans (congrArg some (by kernel_rfl))
 f32 := Tryz.func122.trans (congrArg some (by kernel_rfl))
 f33 := Tryz.func123.trans (congrArg some (by kernel_rfl))
 f34 := Tryz.func124.trans (congrArg some (by kernel_rfl))
 f35 := Tryz.func125.trans (congrArg some (by kernel_rfl))
 f36 := Tryz.func126.trans (congrArg some (by kernel_rfl))
 f37 := Tryz.func127.trans (congrArg some (by kernel_rfl))
 f38 := Tryz.func128.trans (congrArg some (by kernel_rfl))
 f39 := Tryz.func129.trans (congrArg some (by kernel_rfl))
 t0 := Tryz.underlying0
 a0 := Tryz.isAgg0
 z0 := Tryz.sizeOf0
 v0 := Tryz.zeroValue0
 i0 := by kernel_rfl
 t3 := Tryz.underlying3
 a3 := Tryz.isAgg3
 z3 := Tryz.sizeOf3
 v3 := Tryz.zeroValue3
 i3 := by kernel_rfl
 t4 := Tryz.underlying4
 a4 := Tryz.isAgg4
 z4 := Tryz.sizeOf4
 v4 := Tryz.zeroValue4
 i4 := by kernel_rfl
 t5 := Tryz.underlying5
 a5 := Tryz.isAgg5
 z5 := Tryz.sizeOf5
 v5 := Tryz.zeroValue5
 i5 := by kernel_rfl
 t9 := Tryz.underlying9
 a9 := Tryz.isAgg9
 z9 := Tryz.sizeOf9
 v9 := Tryz.zeroValue9
 i9 := by kernel_rfl
 t12 := Tryz.underlying12
 a12 := Tryz.isAgg12
 z12 := Tryz.sizeOf12
 v12 := Tryz.zeroValue12
 i12 := by kernel_rfl
 t17 := Tryz.underlying17
 a17 := Tryz.isAgg17
 z17 := Tryz.sizeOf17
 v17 := Tryz.zeroValue17
 i17 := by kernel_rfl
 t20 := Tryz.underlying20
 a20 := Tryz.isAgg20
 z20 := Tryz.sizeOf20
 v20 := Tryz.zeroValue20
 i20 := by kernel_rfl
 t26 := Tryz.underlying141
 a26 := Tryz.isAgg141
 z26 := Tryz.sizeOf141
 v26 := Tryz.zeroValue141
 i26 := by kernel_rfl
 t32 := Tryz.underlying143
 a32 := Tryz.isAgg143
 z32 := Tryz.sizeOf143
 v32 := Tryz.zeroValue143
 i32 := by kernel_rfl
 t33 := Tryz.underlying144
 a33 := Tryz.isAgg144
 z33 := Tryz.sizeOf144
 v33 := Tryz.zeroValue144
 i33 := by kernel_rfl
 t35 := Tryz.underlying146
 a35 := Tryz.isAgg146
 z35 := Tryz.sizeOf146
 v35 := Tryz.zeroValue146
 i35 := by kernel_rfl
 t37 := Tryz.underlying148
 a37 := Tryz.isAgg148
 z37 := Tryz.sizeOf148
 v37 := Tryz.zeroValue148
 i37 := by kernel_rfl
 t41 := Tryz.underlying115
 a41 := Tryz.isAgg115
 z41 := Tryz.sizeOf115
 v41 := Tryz.zeroValue115
 i41 := by kernel_rfl
 t44 := Tryz.underlying153
 a44 := Tryz.isAgg153
 z44 := Tryz.sizeOf153
 v44 := Tryz.zeroValue153
 i44 := by kernel_rfl
 t49 := Tryz.underlying55
 a49 := Tryz.isAgg55
 z49 := Tryz.sizeOf55
 v49 := Tryz.zeroValue55
 i49 := by kernel_rfl
 t51 := Tryz.underlying72
 a51 := Tryz.isAgg72
 z51 := Tryz.sizeOf72
 v51 := Tryz.zeroValue72
 i51 := by kernel_rfl
 t53 := Tryz.underlying160
 a53 := Tryz.isAgg160
 z53 := Tryz.sizeOf160
 v53 := Tryz.zeroValue160
 i53 := by kernel_rfl
 t54 := Tryz.underlying161
 a54 := Tryz.isAgg161
 z54 := Tryz.sizeOf161
 v54 := Tryz.zeroValue161
 i54 := by kernel_rfl
 t58 := Tryz.underlying165
 a58 := Tryz.isAgg165
 z58 := Tryz.sizeOf165
 v58 := Tryz.zeroValue165
 i58 := by kernel_rfl
 t60 := Tryz.underlying167
 a60 := Tryz.isAgg167
 z60 := Tryz.sizeOf167
 v60 := Tryz.zeroValue167
 i60 := by kernel_rfl
 t64 := Tryz.underlying170
 a64 := Tryz.isAgg170
 z64 := Tryz.sizeOf170
 v64 := Tryz.zeroValue170
 i64 := by kernel_rfl
 t66 := Tryz.underlying172
 a66 := Tryz.isAgg172
 z66 := Tryz.sizeOf172
 v66 := Tryz.zeroValue172
 i66 := by kernel_rfl
 t67 := Tryz.underlying173
 a67 := Tryz.isAgg173
 z67 := Tryz.sizeOf173
 v67 := Tryz.zeroValue173
 i67 := by kernel_rfl
 t75 := Tryz.underlying181
 a75 := Tryz.isAgg181
 z75 := Tryz.sizeOf181
 v75 := Tryz.zeroValue181
 i75 := by kernel_rfl
 t76 := Tryz.underlying182
 a76 := Tryz.isAgg182
 z76 := Tryz.sizeOf182
 v76 := Tryz.zeroValue182
 i76 := by kernel_rfl
 t77 := Tryz.underlying183
 a77 := Tryz.isAgg183
 z77 := Tryz.sizeOf183
 v77 := Tryz.zeroValue183
 i77 := by kernel_rfl
 t78 := Tryz.underlying184
 a78 := Tryz.isAgg184
 z78 := Tryz.sizeOf184
 v78 := Tryz.zeroValue184
 i78 := by kernel_rfl
 t79 := Tryz.underlying185
 a79 := Tryz.isAgg185
 z79 := Tryz.sizeOf185
 v79 := Tryz.zeroValue185
 i79 := by kernel_rfl
 t80 := Tryz.underlying186
 a80 := Tryz.isAgg186
 z80 := Tryz.sizeOf186
 v80 := Tryz.zeroValue186
 i80 := by kernel_rfl
 t82 := Tryz.underlying188
 a82 := Tryz.isAgg188
 z82 := Tryz.sizeOf188
 v82 := Tryz.zeroValue188
 i82 := by kernel_rfl
noncomputable def siT : TypeInfo := (Tryz.prog.info? 88).get (by kernel_rfl)
noncomputable def siE : TypeInfo := (Tryz.prog.info? 55).get (by kernel_rfl)
theorem siK (n : Nat) (h2 : 2 ≤ n) : Lib.swapperK n siE 10 = 6 := by
 have a : siE.hasPointers = false := by kernel_rfl
 have b : siE.bytes = 4 := by kernel_rfl
 have c : (n == 0) = false := by simp; omega
 have d : (n == 1) = false := by simp; omega
 simp [Lib.swapperK, a, b, c, d]
theorem siS (n : Nat) (h1 : n ≤ 1) : Lib.swapperK n siE 10 = n + 1 := by
 rcases Nat.eq_zero_or_pos n with h | h
 · subst h; simp [Lib.swapperK]
 ·
  obtain rfl : n = 1 := by omega
  simp [Lib.swapperK]
theorem sortEnv : SortEnv Tryz.prog sRen 88 55 siT siE 10 where
 lays := sLays
 hi := by kernel_rfl
 hd := by kernel_rfl
 hpk := by kernel_rfl
 hie := by kernel_rfl
 hke := fun _ => by kernel_rfl
 hs1 := by kernel_rfl
 hagg := fun _ => by kernel_rfl
 tiny := fun n h1 => by
  rw [siS n h1]
  rcases Nat.eq_zero_or_pos n with h | h
  · subst h; exact ⟨106, by kernel_rfl⟩
  ·
   obtain rfl : n = 1 := by omega
   exact ⟨107, by kernel_rfl⟩
 big := fun n h2 => ⟨111, true, by rw [siK n h2]; kernel_rfl, fun args W => run_callFunc_extern Tryz.func111 (by kernel_rfl) (by kernel_rfl) (by kernel_rfl) (e := Extern.ReflectliteSwapper.swap true) (by kernel_rfl) args W⟩
set_option maxHeartbeats 2000000 in
theorem less_u32 : LessU Tryz.prog 98 := by
 intro blk off c Bs size W G hs hc i j hi hj
 have ci := hc i hi
 have cj := hc j hj
 go_enter Tryz.func98, Tryz.ntmps98
 go_wp2
 go_quiet (fail)
 go_wp2
 go_ret
 exact ⟨rfl, nq, rfl⟩
theorem k_sort {bx : Nat} {ks : List Int} {a : Option Addr} {n cap U e' : Nat} {N : Chunk} {H : Fz} {L : Own} (hr : Row e' 1 a n cap (u32s ks) N) (h62 : n < 4611686018427387904) :
  Fn Tryz.prog 97 [.iface 88 (.slice a n cap), .func (.func 98) #[] [.pointer (some ⟨bx, 0, none⟩)].toArray] H (N :: [(bx, .cells [.slice a n cap].toArray U (0, 0))] :: L)
   (fun _ H' L' => H = H' ∧ ∃ N', L' = N' :: [(bx, .cells [.slice a n cap].toArray U (0, 0))] :: L ∧ Row e' 1 a n cap (u32s (srt ks)) N') :=
 sort_fn sortEnv Tryz.call97 Tryz.call98 less_u32 hr h62
end Go.Sx

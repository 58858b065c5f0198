import Derived.Test.YtdacadmfdhjpoaaDoorProg
import Derived.Test.YtdacadmfdhjpoaaDoorLibF
import Derived.Deep.QuietTactic
import Derived.Lib.RowBridge
import Derived.Lib.SortBridge
import Derived.WalkKit
import Derived.Laws.Externs
import Derived.KernelRfl
set_option linter.unusedVariables false
set_option linter.unusedSimpArgs false
namespace Go.Sx
open Go.Proofs Go.Shelf Go.Lib Go.Sort Go.RowKit
def sRen : Go.Shelf.Ren := ⟨fun | 6 => 40 | 10 => 50 | 11 => 51 | 12 => 52 | 13 => 53 | 14 => 54 | 24 => 67 | 25 => 68 | 26 => 69 | 27 => 70 | 28 => 71 | 29 => 72 | 30 => 73 | 31 => 74 | 32 => 75 | 33 => 76 | 34 => 77 | 35 => 78 | 36 => 79 | 37 => 80 | 38 => 81 | 39 => 82 | n => n, fun | 0 => 0 | 3 => 3 | 4 => 4 | 5 => 5 | 9 => 9 | 12 => 12 | 17 => 17 | 20 => 20 | 26 => 85 | 32 => 94 | 33 => 95 | 35 => 97 | 37 => 99 | 41 => 102 | 44 => 105 | 49 => 48 | 51 => 89 | 53 => 117 | 54 => 118 | 58 => 122 | 60 => 124 | 64 => 127 | 66 => 129 | 67 => 130 | 75 => 138 | 76 => 139 | 77 => 140 | 78 => 141 | 79 => 142 | 80 => 143 | 82 => 145 | n => n, fun | n => n⟩
theorem sLays : LaysGg.n6 Tryd.prog sRen where
  mixed := by kernel_rfl
  f6 := Tryd.func40.trans (congrArg some (by kernel_rfl))
  f10 := Tryd.func50.trans (congrArg some (by kernel_rfl))
  f11 := Tryd.func51.trans (congrArg some (by kernel_rfl))
  f12 := Tryd.func52.trans (congrArg some (by kernel_rfl))
  f13 := Tryd.func53.trans (congrArg some (by kernel_rfl))
  f14 := Tryd.func54.trans (congrArg some (by kernel_rfl))
  f24 := Tryd.func67.trans (congrArg some (by kernel_rfl))
  f25 := Tryd.func68.trans (congrArg some (by kernel_rfl))
  f26 := Tryd.func69.trans (congrArg some (by kernel_rfl))
  f27 := Tryd.func70.trans (congrArg some (by kernel_rfl))
  f28 := Tryd.func71.trans (congrArg some (by kernel_rfl))
  f29 := Tryd.func72.trans (congrArg some (by kernel_rfl))
  f30 := Tryd.func73.trans (congrArg some (by kernel_rfl))
  f31 := Tryd.func74.trans (congrArg some (by kernel_rfl))
  f32 := Tryd.func75.trans (congrArg some (by kernel_rfl))
  f33 := Tryd.func76.trans (congrArg some (by kernel_rfl))
  f34 := Tryd.func77.trans (congrArg some (by kernel_rfl))
  f35 := Tryd.func78.trans (congrArg some (by kernel_rfl))
  f36 := Tryd.func79.trans (congrArg some (by kernel_rfl))
  f37 := Tryd.func80.trans (congrArg some (by kernel_rfl))
  f38 := Tryd.func81.trans (congrArg some (by kernel_rfl))
  f39 := Tryd.func82.trans (congrArg some (by kernel_rfl))
  t0 := Tryd.underlying0
  a0 := Tryd.isAgg0
  z0 := Tryd.sizeOf0
  v0 := Tryd.zeroValue0
  i0 := by kernel_rfl
  t3 := Tryd.underlying3
  a3 := Tryd.isAgg3
  z3 := Tryd.sizeOf3
  v3 := Tryd.zeroValue3
  i3 := by kernel_rfl
  t4 := Tryd.underlying4
  a4 := Tryd.isAgg4
  z4 := Tryd.sizeOf4
  v4 := Tryd.zeroValue4
  i4 := by kernel_rfl
  t5 := Tryd.underlying5
  a5 := Tryd.isAgg5
  z5 := Tryd.sizeOf5
  v5 := Tryd.zeroValue5
  i5 := by kernel_rfl
  t9 := Tryd.underlying9
  a9 := Tryd.isAgg9
  z9 := Tryd.sizeOf9
  v9 := Tryd.zeroValue9
  i9 := by kernel_rfl
  t12 := Tryd.underlying12
  a12 := Tryd.isAgg12
  z12 := Tryd.sizeOf12
  v12 := Tryd.zeroValue12
  i12 := by kernel_rfl
  t17 := Tryd.underlying17
  a17 := Tryd.isAgg17
  z17 := Tryd.sizeOf17
  v17 := Tryd.zeroValue17
  i17 := by kernel_rfl
  t20 := Tryd.underlying20
  a20 := Tryd.isAgg20
  z20 := Tryd.sizeOf20
  v20 := Tryd.zeroValue20
  i20 := by kernel_rfl
  t26 := Tryd.underlying85
  a26 := Tryd.isAgg85
  z26 := Tryd.sizeOf85
  v26 := Tryd.zeroValue85
  i26 := by kernel_rfl
  t32 := Tryd.underlying94
  a32 := Tryd.isAgg94
  z32 := Tryd.sizeOf94
  v32 := Tryd.zeroValue94
  i32 := by kernel_rfl
  t33 := Tryd.underlying95
  a33 := Tryd.isAgg95
  z33 := Tryd.sizeOf95
  v33 := Tryd.zeroValue95
  i33 := by kernel_rfl
  t35 := Tryd.underlying97
  a35 := Tryd.isAgg97
  z35 := Tryd.sizeOf97
  v35 := Tryd.zeroValue97
  i35 := by kernel_rfl
  t37 := Tryd.underlying99
  a37 := Tryd.isAgg99
  z37 := Tryd.sizeOf99
  v37 := Tryd.zeroValue99
  i37 := by kernel_rfl
  t41 := Tryd.underlying102
  a41 := Tryd.isAgg102
  z41 := Tryd.sizeOf102
  v41 := Tryd.zeroValue102
  i41 := by kernel_rfl
  t44 := Tryd.underlying105
  a44 := Tryd.isAgg105
  z44 := Tryd.sizeOf105
  v44 := Tryd.zeroValue105
  i44 := by kernel_rfl
  t49 := Tryd.underlying48
  a49 := Tryd.isAgg48
  z49 := Tryd.sizeOf48
  v49 := Tryd.zeroValue48
  i49 := by kernel_rfl
  t51 := Tryd.underlying89
  a51 := Tryd.isAgg89
  z51 := Tryd.sizeOf89
  v51 := Tryd.zeroValue89
  i51 := by kernel_rfl
  t53 := Tryd.underlying117
  a53 := Tryd.isAgg117
  z53 := Tryd.sizeOf117
  v53 := Tryd.zeroValue117
  i53 := by kernel_rfl
  t54 := Tryd.underlying118
  a54 := Tryd.isAgg118
  z54 := Tryd.sizeOf118
  v54 := Tryd.zeroValue118
  i54 := by kernel_rfl
  t58 := Tryd.underlying122
  a58 := Tryd.isAgg122
  z58 := Tryd.sizeOf122
  v58 := Tryd.zeroValue122
  i58 := by kernel_rfl
  t60 := Tryd.underlying124
  a60 := Tryd.isAgg124
  z60 := Tryd.sizeOf124
  v60 := Tryd.zeroValue124
  i60 := by kernel_rfl
  t64 := Tryd.underlying127
  a64 := Tryd.isAgg127
  z64 := Tryd.sizeOf127
  v64 := Tryd.zeroValue127
  i64 := by kernel_rfl
  t66 := Tryd.underlying129
  a66 := Tryd.isAgg129
  z66 := Tryd.sizeOf129
  v66 := Tryd.zeroValue129
  i66 := by kernel_rfl
  t67 := Tryd.underlying130
  a67 := Tryd.isAgg130
  z67 := Tryd.sizeOf130
  v67 := Tryd.zeroValue130
  i67 := by kernel_rfl
  t75 := Tryd.underlying138
  a75 := Tryd.isAgg138
  z75 := Tryd.sizeOf138
  v75 := Tryd.zeroValue138
  i75 := by kernel_rfl
  t76 := Tryd.underlying139
  a76 := Tryd.isAgg139
  z76 := Tryd.sizeOf139
  v76 := Tryd.zeroValue139
  i76 := by kernel_rfl
  t77 := Tryd.underlying140
  a77 := Tryd.isAgg140
  z77 := Tryd.sizeOf140
  v77 := Tryd.zeroValue140
  i77 := by kernel_rfl
  t78 := Tryd.underlying141
  a78 := Tryd.isAgg141
  z78 := Tryd.sizeOf141
  v78 := Tryd.zeroValue141
  i78 := by kernel_rfl
  t79 := Tryd.underlying142
  a79 := Tryd.isAgg142
  z79 := Tryd.sizeOf142
  v79 := Tryd.zeroValue142
  i79 := by kernel_rfl
  t80 := Tryd.underlying143
  a80 := Tryd.isAgg143
  z80 := Tryd.sizeOf143
  v80 := Tryd.zeroValue143
  i80 := by kernel_rfl
  t82 := Tryd.underlying145
  a82 := Tryd.isAgg145
  z82 := Tryd.sizeOf145
  v82 := Tryd.zeroValue145
  i82 := by kernel_rfl
noncomputable def siT : TypeInfo := (Tryd.prog.info? 83).get (by kernel_rfl)
noncomputable def siE : TypeInfo := (Tryd.prog.info? 48).get (by kernel_rfl)
theorem siK (n : Nat) (h2 : 2 ≤ n) : Lib.swapperK n siE 10 = 6 := by
  have a : siE.hasPointers = false := by kernel_rfl
  have b : siE.bytes = 4 := by kernel_rfl
  have c : (n == 0) = false := by simp; omega
  have d : (n == 1) = false := by simp; omega
  simp [Lib.swapperK, a, b, c, d]
theorem siS (n : Nat) (h1 : n ≤ 1) : Lib.swapperK n siE 10 = n + 1 := by
  rcases Nat.eq_zero_or_pos n with h | h
  · subst h; simp [Lib.swapperK]
  · obtain rfl : n = 1 := by omega
    simp [Lib.swapperK]
theorem sortEnv : SortEnv Tryd.prog sRen 83 48 siT siE 10 where
  lays := sLays
  hi := by kernel_rfl
  hd := by kernel_rfl
  hpk := by kernel_rfl
  hie := by kernel_rfl
  hke := fun _ => by kernel_rfl
  hs1 := by kernel_rfl
  hagg := fun _ => by kernel_rfl
  tiny := fun n h1 => by
    rw [siS n h1]
    rcases Nat.eq_zero_or_pos n with h | h
    · subst h; exact ⟨58, by kernel_rfl⟩
    · obtain rfl : n = 1 := by omega
      exact ⟨59, by kernel_rfl⟩
  big := fun n h2 => ⟨63, true, by rw [siK n h2]; kernel_rfl, fun args W => run_callFunc_extern Tryd.func63 (by kernel_rfl) (by kernel_rfl) (by kernel_rfl) (e := Extern.ReflectliteSwapper.swap true) (by kernel_rfl) args W⟩
set_option maxHeartbeats 2000000 in
theorem less_u32 : LessU Tryd.prog 41 := by
  intro blk off c Bs size W G hs hc i j hi hj
  have ci := hc i hi
  have cj := hc j hj
  go_enter Tryd.func41, Tryd.ntmps41
  go_wp2
  go_quiet (fail)
  go_wp2
  go_ret
  exact ⟨rfl, nq, rfl⟩
theorem k_sort {bx : Nat} {ks : List Int} {a : Option Addr} {n cap U e' : Nat} {N : Chunk} {H : Fz} {L : Own} (hr : Row e' 1 a n cap (u32s ks) N) (h62 : n < 4611686018427387904) :
    Fn Tryd.prog 40 [.iface 83 (.slice a n cap), .func (.func 41) #[] [.pointer (some ⟨bx, 0, none⟩)].toArray] H (N :: [(bx, .cells [.slice a n cap].toArray U (0, 0))] :: L)
      (fun _ H' L' => H = H' ∧ ∃ N', L' = N' :: [(bx, .cells [.slice a n cap].toArray U (0, 0))] :: L ∧ Row e' 1 a n cap (u32s (srt ks)) N') :=
  sort_fn sortEnv Tryd.call40 Tryd.call41 less_u32 hr h62
end Go.Sx

import Derived.Test.YthgkgbaggjongaaDoorProg
import Derived.Test.YthgkgbaggjongaaDoorLibF
import Derived.Deep.QuietTactic
import Derived.Lib.RowBridge
import Derived.Lib.SortBridge
import Derived.WalkKit
import Derived.Laws.Externs
import Derived.KernelRfl
set_option linter.unusedVariables false
set_option linter.unusedSimpArgs false
namespace Go.Sx
open Go.Proofs Go.Shelf Go.Lib Go.Sort Go.RowKit
def sRen : Go.Shelf.Ren := ⟨fun | 6 => 59 | 10 => 63 | 11 => 64 | 12 => 65 | 13 => 66 | 14 => 67 | 24 => 58 | 25 => 77 | 26 => 78 | 27 => 79 | 28 => 80 | 29 => 81 | 30 => 82 | 31 => 83 | 32 => 84 | 33 => 85 | 34 => 86 | 35 => 87 | 36 => 88 | 37 => 89 | 38 => 90 | 39 => 91 | n => n, fun | 0 => 0 | 3 => 3 | 4 => 4 | 5 => 5 | 9 => 9 | 12 => 12 | 17 => 17 | 20 => 20 | 26 => 104 | 32 => 108 | 33 => 109 | 35 => 111 | 37 => 113 | 41 => 80 | 44 => 118 | 49 => 52 | 51 => 67 | 53 => 124 | 54 => 125 | 58 => 129 | 60 => 131 | 64 => 134 | 66 => 136 | 67 => 137 | 75 => 146 | 76 => 147 | 77 => 148 | 78 => 149 | 79 => 150 | 80 => 151 | 82 => 153 | n => n, fun | n => n⟩
theorem sLays : LaysGg.n6 Tryd.prog sRen where
  mixed := by kernel_rfl
  f6 := Tryd.func59.trans (congrArg some (by kernel_rfl))
  f10 := Tryd.func63.trans (congrArg some (by kernel_rfl))
  f11 := Tryd.func64.trans (congrArg some (by kernel_rfl))
  f12 := Tryd.func65.trans (congrArg some (by kernel_rfl))
  f13 := Tryd.func66.trans (congrArg some (by kernel_rfl))
  f14 := Tryd.func67.trans (congrArg some (by kernel_rfl))
  f24 := Tryd.func58.trans (congrArg some (by kernel_rfl))
  f25 := Tryd.func77.trans (congrArg some (by kernel_rfl))
  f26 := Tryd.func78.trans (congrArg some (by kernel_rfl))
  f27 := Tryd.func79.trans (congrArg some (by kernel_rfl))
  f28 := Tryd.func80.trans (congrArg some (by kernel_rfl))
  f29 := Tryd.func81.trans (congrArg some (by kernel_rfl))
  f30 := Tryd.func82.trans (congrArg some (by kernel_rfl))
  f31 := Tryd.func83.trans (congrArg some (by kernel_rfl))
  f32 := Tryd.func84.trans (congrArg some (by kernel_rfl))
  f33 := Tryd.func85.trans (congrArg some (by kernel_rfl))
  f34 := Tryd.func86.trans (congrArg some (by kernel_rfl))
  f35 := Tryd.func87.trans (congrArg some (by kernel_rfl))
  f36 := Tryd.func88.trans (congrArg some (by kernel_rfl))
  f37 := Tryd.func89.trans (congrArg some (by kernel_rfl))
  f38 := Tryd.func90.trans (congrArg some (by kernel_rfl))
  f39 := Tryd.func91.trans (congrArg some (by kernel_rfl))
  t0 := Tryd.underlying0
  a0 := Tryd.isAgg0
  z0 := Tryd.sizeOf0
  v0 := Tryd.zeroValue0
  i0 := by kernel_rfl
  t3 := Tryd.underlying3
  a3 := Tryd.isAgg3
  z3 := Tryd.sizeOf3
  v3 := Tryd.zeroValue3
  i3 := by kernel_rfl
  t4 := Tryd.underlying4
  a4 := Tryd.isAgg4
  z4 := Tryd.sizeOf4
  v4 := Tryd.zeroValue4
  i4 := by kernel_rfl
  t5 := Tryd.underlying5
  a5 := Tryd.isAgg5
  z5 := Tryd.sizeOf5
  v5 := Tryd.zeroValue5
  i5 := by kernel_rfl
  t9 := Tryd.underlying9
  a9 := Tryd.isAgg9
  z9 := Tryd.sizeOf9
  v9 := Tryd.zeroValue9
  i9 := by kernel_rfl
  t12 := Tryd.underlying12
  a12 := Tryd.isAgg12
  z12 := Tryd.sizeOf12
  v12 := Tryd.zeroValue12
  i12 := by kernel_rfl
  t17 := Tryd.underlying17
  a17 := Tryd.isAgg17
  z17 := Tryd.sizeOf17
  v17 := Tryd.zeroValue17
  i17 := by kernel_rfl
  t20 := Tryd.underlying20
  a20 := Tryd.isAgg20
  z20 := Tryd.sizeOf20
  v20 := Tryd.zeroValue20
  i20 := by kernel_rfl
  t26 := Tryd.underlying104
  a26 := Tryd.isAgg104
  z26 := Tryd.sizeOf104
  v26 := Tryd.zeroValue104
  i26 := by kernel_rfl
  t32 := Tryd.underlying108
  a32 := Tryd.isAgg108
  z32 := Tryd.sizeOf108
  v32 := Tryd.zeroValue108
  i32 := by kernel_rfl
  t33 := Tryd.underlying109
  a33 := Tryd.isAgg109
  z33 := Tryd.sizeOf109
  v33 := Tryd.zeroValue109
  i33 := by kernel_rfl
  t35 := Tryd.underlying111
  a35 := Tryd.isAgg111
  z35 := Tryd.sizeOf111
  v35 := Tryd.zeroValue111
  i35 := by kernel_rfl
  t37 := Tryd.underlying113
  a37 := Tryd.isAgg113
  z37 := Tryd.sizeOf113
  v37 := Tryd.zeroValue113
  i37 := by kernel_rfl
  t41 := Tryd.underlying80
  a41 := Tryd.isAgg80
  z41 := Tryd.sizeOf80
  v41 := Tryd.zeroValue80
  i41 := by kernel_rfl
  t44 := Tryd.underlying118
  a44 := Tryd.isAgg118
  z44 := Tryd.sizeOf118
  v44 := Tryd.zeroValue118
  i44 := by kernel_rfl
  t49 := Tryd.underlying52
  a49 := Tryd.isAgg52
  z49 := Tryd.sizeOf52
  v49 := Tryd.zeroValue52
  i49 := by kernel_rfl
  t51 := Tryd.underlying67
  a51 := Tryd.isAgg67
  z51 := Tryd.sizeOf67
  v51 := Tryd.zeroValue67
  i51 := by kernel_rfl
  t53 := Tryd.underlying124
  a53 := Tryd.isAgg124
  z53 := Tryd.sizeOf124
  v53 := Tryd.zeroValue124
  i53 := by kernel_rfl
  t54 := Tryd.underlying125
  a54 := Tryd.isAgg125
  z54 := Tryd.sizeOf125
  v54 := Tryd.zeroValue125
  i54 := by kernel_rfl
  t58 := Tryd.underlying129
  a58 := Tryd.isAgg129
  z58 := Tryd.sizeOf129
  v58 := Tryd.zeroValue129
  i58 := by kernel_rfl
  t60 := Tryd.underlying131
  a60 := Tryd.isAgg131
  z60 := Tryd.sizeOf131
  v60 := Tryd.zeroValue131
  i60 := by kernel_rfl
  t64 := Tryd.underlying134
  a64 := Tryd.isAgg134
  z64 := Tryd.sizeOf134
  v64 := Tryd.zeroValue134
  i64 := by kernel_rfl
  t66 := Tryd.underlying136
  a66 := Tryd.isAgg136
  z66 := Tryd.sizeOf136
  v66 := Tryd.zeroValue136
  i66 := by kernel_rfl
  t67 := Tryd.underlying137
  a67 := Tryd.isAgg137
  z67 := Tryd.sizeOf137
  v67 := Tryd.zeroValue137
  i67 := by kernel_rfl
  t75 := Tryd.underlying146
  a75 := Tryd.isAgg146
  z75 := Tryd.sizeOf146
  v75 := Tryd.zeroValue146
  i75 := by kernel_rfl
  t76 := Tryd.underlying147
  a76 := Tryd.isAgg147
  z76 := Tryd.sizeOf147
  v76 := Tryd.zeroValue147
  i76 := by kernel_rfl
  t77 := Tryd.underlying148
  a77 := Tryd.isAgg148
  z77 := Tryd.sizeOf148
  v77 := Tryd.zeroValue148
  i77 := by kernel_rfl
  t78 := Tryd.underlying149
  a78 := Tryd.isAgg149
  z78 := Tryd.sizeOf149
  v78 := Tryd.zeroValue149
  i78 := by kernel_rfl
  t79 := Tryd.underlying150
  a79 := Tryd.isAgg150
  z79 := Tryd.sizeOf150
  v79 := Tryd.zeroValue150
  i79 := by kernel_rfl
  t80 := Tryd.underlying151
  a80 := Tryd.isAgg151
  z80 := Tryd.sizeOf151
  v80 := Tryd.zeroValue151
  i80 := by kernel_rfl
  t82 := Tryd.underlying153
  a82 := Tryd.isAgg153
  z82 := Tryd.sizeOf153
  v82 := Tryd.zeroValue153
  i82 := by kernel_rfl
noncomputable def siT : TypeInfo := (Tryd.prog.info? 102).get (by kernel_rfl)
noncomputable def siE : TypeInfo := (Tryd.prog.info? 52).get (by kernel_rfl)
theorem siK (n : Nat) (h2 : 2 ≤ n) : Lib.swapperK n siE 10 = 6 := by
  have a : siE.hasPointers = false := by kernel_rfl
  have b : siE.bytes = 4 := by kernel_rfl
  have c : (n == 0) = false := by simp; omega
  have d : (n == 1) = false := by simp; omega
  simp [Lib.swapperK, a, b, c, d]
theorem siS (n : Nat) (h1 : n ≤ 1) : Lib.swapperK n siE 10 = n + 1 := by
  rcases Nat.eq_zero_or_pos n with h | h
  · subst h; simp [Lib.swapperK]
  · obtain rfl : n = 1 := by omega
    simp [Lib.swapperK]
theorem sortEnv : SortEnv Tryd.prog sRen 102 52 siT siE 10 where
  lays := sLays
  hi := by kernel_rfl
  hd := by kernel_rfl
  hpk := by kernel_rfl
  hie := by kernel_rfl
  hke := fun _ => by kernel_rfl
  hs1 := by kernel_rfl
  hagg := fun _ => by kernel_rfl
  tiny := fun n h1 => by
    rw [siS n h1]
    rcases Nat.eq_zero_or_pos n with h | h
    · subst h; exact ⟨68, by kernel_rfl⟩
    · obtain rfl : n = 1 := by omega
      exact ⟨69, by kernel_rfl⟩
  big := fun n h2 => ⟨73, true, by rw [siK n h2]; kernel_rfl, fun args W => run_callFunc_extern Tryd.func73 (by kernel_rfl) (by kernel_rfl) (by kernel_rfl) (e := Extern.ReflectliteSwapper.swap true) (by kernel_rfl) args W⟩
set_option maxHeartbeats 2000000 in
theorem less_u32 : LessU Tryd.prog 60 := by
  intro blk off c Bs size W G hs hc i j hi hj
  have ci := hc i hi
  have cj := hc j hj
  go_enter Tryd.func60, Tryd.ntmps60
  go_wp2
  go_quiet (fail)
  go_wp2
  go_ret
  exact ⟨rfl, nq, rfl⟩
theorem k_sort {bx : Nat} {ks : List Int} {a : Option Addr} {n cap U e' : Nat} {N : Chunk} {H : Fz} {L : Own} (hr : Row e' 1 a n cap (u32s ks) N) (h62 : n < 4611686018427387904) :
    Fn Tryd.prog 59 [.iface 102 (.slice a n cap), .func (.func 60) #[] [.pointer (some ⟨bx, 0, none⟩)].toArray] H (N :: [(bx, .cells [.slice a n cap].toArray U (0, 0))] :: L)
      (fun _ H' L' => H = H' ∧ ∃ N', L' = N' :: [(bx, .cells [.slice a n cap].toArray U (0, 0))] :: L ∧ Row e' 1 a n cap (u32s (srt ks)) N') :=
  sort_fn sortEnv Tryd.call59 Tryd.call60 less_u32 hr h62
end Go.Sx

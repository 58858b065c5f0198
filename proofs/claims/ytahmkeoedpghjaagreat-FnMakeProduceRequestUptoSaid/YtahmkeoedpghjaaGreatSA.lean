import Derived.Test.YtahmkeoedpghjaaGreatProg
import Derived.Test.YtahmkeoedpghjaaGreatSortL
import Derived.Deep.QuietTactic
import Derived.Lib.RowBridge
import Derived.Lib.SortBridge
import Derived.WalkKit
import Derived.Laws.Externs
import Derived.KernelRfl
set_option linter.unusedVariables false
set_option linter.unusedSimpArgs false
namespace Go.Sx
open Go.Proofs Go.Shelf Go.Lib Go.Sort Go.RowKit
def sRen : Go.Shelf.Ren := ⟨fun | 6 => 68 | 10 => 70 | 11 => 71 | 12 => 72 | 13 => 73 | 14 => 74 | 24 => 67 | 25 => 84 | 26 => 85 | 27 => 86 | 28 => 87 | 29 => 88 | 30 => 89 | 31 => 90 | 32 => 91 | 33 => 92 | 34 => 93 | 35 => 94 | 36 => 95 | 37 => 96 | 38 => 97 | 39 => 98 | n => n, fun | 0 => 0 | 3 => 3 | 4 => 4 | 5 => 5 | 9 => 9 | 12 => 12 | 17 => 17 | 20 => 20 | 26 => 114 | 32 => 115 | 33 => 116 | 35 => 118 | 37 => 120 | 41 => 105 | 44 => 125 | 49 => 62 | 51 => 98 | 53 => 131 | 54 => 132 | 58 => 136 | 60 => 138 | 64 => 142 | 66 => 144 | 67 => 145 | 75 => 153 | 76 => 154 | 77 => 155 | 78 => 156 | 79 => 157 | 80 => 158 | 82 => 160 | n => n, fun | n => n⟩
theorem sLays : LaysGg.n6 Tryz.prog sRen where
  mixed := by kernel_rfl
  f6 := Tryz.func68.trans (congrArg some (by kernel_rfl))
  f10 := Tryz.func70.trans (congrArg some (by kernel_rfl))
  f11 := Tryz.func71.trans (congrArg some (by kernel_rfl))
  f12 := Tryz.func72.trans (congrArg some (by kernel_rfl))
  f13 := Tryz.func73.trans (congrArg some (by kernel_rfl))
  f14 := Tryz.func74.trans (congrArg some (by kernel_rfl))
  f24 := Tryz.func67.trans (congrArg some (by kernel_rfl))
  f25 := Tryz.func84.trans (congrArg some (by kernel_rfl))
  f26 := Tryz.func85.trans (congrArg some (by kernel_rfl))
  f27 := Tryz.func86.trans (congrArg some (by kernel_rfl))
  f28 := Tryz.func87.trans (congrArg some (by kernel_rfl))
  f29 := Tryz.func88.trans (congrArg some (by kernel_rfl))
  f30 := Tryz.func89.trans (congrArg some (by kernel_rfl))
  f31 := Tryz.func90.trans (congrArg some (by kernel_rfl))
  f32 := Tryz.func91.trans (congrArg some (by kernel_rfl))
  f33 := Tryz.func92.trans (congrArg some (by kernel_rfl))
  f34 := Tryz.func93.trans (congrArg some (by kernel_rfl))
  f35 := Tryz.func94.trans (congrArg some (by kernel_rfl))
  f36 := Tryz.func95.trans (congrArg some (by kernel_rfl))
  f37 := Tryz.func96.trans (congrArg some (by kernel_rfl))
  f38 := Tryz.func97.trans (congrArg some (by kernel_rfl))
  f39 := Tryz.func98.trans (congrArg some (by kernel_rfl))
  t0 := Tryz.underlying0
  a0 := Tryz.isAgg0
  z0 := Tryz.sizeOf0
  v0 := Tryz.zeroValue0
  i0 := by kernel_rfl
  t3 := Tryz.underlying3
  a3 := Tryz.isAgg3
  z3 := Tryz.sizeOf3
  v3 := Tryz.zeroValue3
  i3 := by kernel_rfl
  t4 := Tryz.underlying4
  a4 := Tryz.isAgg4
  z4 := Tryz.sizeOf4
  v4 := Tryz.zeroValue4
  i4 := by kernel_rfl
  t5 := Tryz.underlying5
  a5 := Tryz.isAgg5
  z5 := Tryz.sizeOf5
  v5 := Tryz.zeroValue5
  i5 := by kernel_rfl
  t9 := Tryz.underlying9
  a9 := Tryz.isAgg9
  z9 := Tryz.sizeOf9
  v9 := Tryz.zeroValue9
  i9 := by kernel_rfl
  t12 := Tryz.underlying12
  a12 := Tryz.isAgg12
  z12 := Tryz.sizeOf12
  v12 := Tryz.zeroValue12
  i12 := by kernel_rfl
  t17 := Tryz.underlying17
  a17 := Tryz.isAgg17
  z17 := Tryz.sizeOf17
  v17 := Tryz.zeroValue17
  i17 := by kernel_rfl
  t20 := Tryz.underlying20
  a20 := Tryz.isAgg20
  z20 := Tryz.sizeOf20
  v20 := Tryz.zeroValue20
  i20 := by kernel_rfl
  t26 := Tryz.underlying114
  a26 := Tryz.isAgg114
  z26 := Tryz.sizeOf114
  v26 := Tryz.zeroValue114
  i26 := by kernel_rfl
  t32 := Tryz.underlying115
  a32 := Tryz.isAgg115
  z32 := Tryz.sizeOf115
  v32 := Tryz.zeroValue115
  i32 := by kernel_rfl
  t33 := Tryz.underlying116
  a33 := Tryz.isAgg116
  z33 := Tryz.sizeOf116
  v33 := Tryz.zeroValue116
  i33 := by kernel_rfl
  t35 := Tryz.underlying118
  a35 := Tryz.isAgg118
  z35 := Tryz.sizeOf118
  v35 := Tryz.zeroValue118
  i35 := by kernel_rfl
  t37 := Tryz.underlying120
  a37 := Tryz.isAgg120
  z37 := Tryz.sizeOf120
  v37 := Tryz.zeroValue120
  i37 := by kernel_rfl
  t41 := Tryz.underlying105
  a41 := Tryz.isAgg105
  z41 := Tryz.sizeOf105
  v41 := Tryz.zeroValue105
  i41 := by kernel_rfl
  t44 := Tryz.underlying125
  a44 := Tryz.isAgg125
  z44 := Tryz.sizeOf125
  v44 := Tryz.zeroValue125
  i44 := by kernel_rfl
  t49 := Tryz.underlying62
  a49 := Tryz.isAgg62
  z49 := Tryz.sizeOf62
  v49 := Tryz.zeroValue62
  i49 := by kernel_rfl
  t51 := Tryz.underlying98
  a51 := Tryz.isAgg98
  z51 := Tryz.sizeOf98
  v51 := Tryz.zeroValue98
  i51 := by kernel_rfl
  t53 := Tryz.underlying131
  a53 := Tryz.isAgg131
  z53 := Tryz.sizeOf131
  v53 := Tryz.zeroValue131
  i53 := by kernel_rfl
  t54 := Tryz.underlying132
  a54 := Tryz.isAgg132
  z54 := Tryz.sizeOf132
  v54 := Tryz.zeroValue132
  i54 := by kernel_rfl
  t58 := Tryz.underlying136
  a58 := Tryz.isAgg136
  z58 := Tryz.sizeOf136
  v58 := Tryz.zeroValue136
  i58 := by kernel_rfl
  t60 := Tryz.underlying138
  a60 := Tryz.isAgg138
  z60 := Tryz.sizeOf138
  v60 := Tryz.zeroValue138
  i60 := by kernel_rfl
  t64 := Tryz.underlying142
  a64 := Tryz.isAgg142
  z64 := Tryz.sizeOf142
  v64 := Tryz.zeroValue142
  i64 := by kernel_rfl
  t66 := Tryz.underlying144
  a66 := Tryz.isAgg144
  z66 := Tryz.sizeOf144
  v66 := Tryz.zeroValue144
  i66 := by kernel_rfl
  t67 := Tryz.underlying145
  a67 := Tryz.isAgg145
  z67 := Tryz.sizeOf145
  v67 := Tryz.zeroValue145
  i67 := by kernel_rfl
  t75 := Tryz.underlying153
  a75 := Tryz.isAgg153
  z75 := Tryz.sizeOf153
  v75 := Tryz.zeroValue153
  i75 := by kernel_rfl
  t76 := Tryz.underlying154
  a76 := Tryz.isAgg154
  z76 := Tryz.sizeOf154
  v76 := Tryz.zeroValue154
  i76 := by kernel_rfl
  t77 := Tryz.underlying155
  a77 := Tryz.isAgg155
  z77 := Tryz.sizeOf155
  v77 := Tryz.zeroValue155
  i77 := by kernel_rfl
  t78 := Tryz.underlying156
  a78 := Tryz.isAgg156
  z78 := Tryz.sizeOf156
  v78 := Tryz.zeroValue156
  i78 := by kernel_rfl
  t79 := Tryz.underlying157
  a79 := Tryz.isAgg157
  z79 := Tryz.sizeOf157
  v79 := Tryz.zeroValue157
  i79 := by kernel_rfl
  t80 := Tryz.underlying158
  a80 := Tryz.isAgg158
  z80 := Tryz.sizeOf158
  v80 := Tryz.zeroValue158
  i80 := by kernel_rfl
  t82 := Tryz.underlying160
  a82 := Tryz.isAgg160
  z82 := Tryz.sizeOf160
  v82 := Tryz.zeroValue160
  i82 := by kernel_rfl
noncomputable def siT : TypeInfo := (Tryz.prog.info? 112).get (by kernel_rfl)
noncomputable def siE : TypeInfo := (Tryz.prog.info? 62).get (by kernel_rfl)
theorem siK (n : Nat) (h2 : 2 ≤ n) : Lib.swapperK n siE 10 = 6 := by
  have a : siE.hasPointers = false := by kernel_rfl
  have b : siE.bytes = 4 := by kernel_rfl
  have c : (n == 0) = false := by simp; omega
  have d : (n == 1) = false := by simp; omega
  simp [Lib.swapperK, a, b, c, d]
theorem siS (n : Nat) (h1 : n ≤ 1) : Lib.swapperK n siE 10 = n + 1 := by
  rcases Nat.eq_zero_or_pos n with h | h
  · subst h; simp [Lib.swapperK]
  · obtain rfl : n = 1 := by omega
    simp [Lib.swapperK]
theorem sortEnv : SortEnv Tryz.prog sRen 112 62 siT siE 10 where
  lays := sLays
  hi := by kernel_rfl
  hd := by kernel_rfl
  hpk := by kernel_rfl
  hie := by kernel_rfl
  hke := fun _ => by kernel_rfl
  hs1 := by kernel_rfl
  hagg := fun _ => by kernel_rfl
  tiny := fun n h1 => by
    rw [siS n h1]
    rcases Nat.eq_zero_or_pos n with h | h
    · subst h; exact ⟨75, by kernel_rfl⟩
    · obtain rfl : n = 1 := by omega
      exact ⟨76, by kernel_rfl⟩
  big := fun n h2 => ⟨80, true, by rw [siK n h2]; kernel_rfl, fun args W => run_callFunc_extern Tryz.func80 (by kernel_rfl) (by kernel_rfl) (by kernel_rfl) (e := Extern.ReflectliteSwapper.swap true) (by kernel_rfl) args W⟩
set_option maxHeartbeats 2000000 in
theorem less_u32 : LessU Tryz.prog 69 := by
  intro blk off c Bs size W G hs hc i j hi hj
  have ci := hc i hi
  have cj := hc j hj
  go_enter Tryz.func69, Tryz.ntmps69
  go_wp2
  go_quiet (fail)
  go_wp2
  go_ret
  exact ⟨rfl, nq, rfl⟩
theorem k_sort {bx : Nat} {ks : List Int} {a : Option Addr} {n cap U e' : Nat} {N : Chunk} {H : Fz} {L : Own} (hr : Row e' 1 a n cap (u32s ks) N) (h62 : n < 4611686018427387904) :
    Fn Tryz.prog 68 [.iface 112 (.slice a n cap), .func (.func 69) #[] [.pointer (some ⟨bx, 0, none⟩)].toArray] H (N :: [(bx, .cells [.slice a n cap].toArray U (0, 0))] :: L)
      (fun _ H' L' => H = H' ∧ ∃ N', L' = N' :: [(bx, .cells [.slice a n cap].toArray U (0, 0))] :: L ∧ Row e' 1 a n cap (u32s (srt ks)) N') :=
  sort_fn sortEnv Tryz.call68 Tryz.call69 less_u32 hr h62
end Go.Sx

import Derived.Test.YtoncemcnclkpkaaDoorProg
import Derived.Test.YtoncemcnclkpkaaDoorLibF
import Derived.Deep.QuietTactic
import Derived.Lib.RowBridge
import Derived.Lib.SortBridge
import Derived.WalkKit
import Derived.Laws.Externs
import Derived.KernelRfl
set_option linter.unusedVariables false
set_option linter.unusedSimpArgs false
namespace Go.Sx
open Go.Proofs Go.Shelf Go.Lib Go.Sort Go.RowKit
def sRen : Go.Shelf.Ren := ⟨fun | 6 => 117 | 10 => 136 | 11 => 137 | 12 => 138 | 13 => 139 | 14 => 140 | 24 => 155 | 25 => 156 | 26 => 157 | 27 => 158 | 28 => 159 | 29 => 160 | 30 => 161 | 31 => 162 | 32 => 163 | 33 => 164 | 34 => 166 | 35 => 167 | 36 => 168 | 37 => 169 | 38 => 170 | 39 => 171 | n => n, fun | 0 => 0 | 3 => 3 | 4 => 4 | 5 => 5 | 9 => 9 | 12 => 12 | 17 => 17 | 20 => 20 | 26 => 133 | 32 => 144 | 33 => 145 | 35 => 147 | 37 => 149 | 41 => 136 | 44 => 154 | 49 => 64 | 51 => 106 | 53 => 169 | 54 => 170 | 58 => 174 | 60 => 177 | 64 => 180 | 66 => 182 | 67 => 183 | 75 => 191 | 76 => 192 | 77 => 193 | 78 => 194 | 79 => 195 | 80 => 196 | 82 => 198 | n => n, fun | n => n⟩
theorem sLays : LaysGg.n6 Tryd.prog sRen where
  mixed := by kernel_rfl
  f6 := Tryd.func117.trans (congrArg some (by kernel_rfl))
  f10 := Tryd.func136.trans (congrArg some (by kernel_rfl))
  f11 := Tryd.func137.trans (congrArg some (by kernel_rfl))
  f12 := Tryd.func138.trans (congrArg some (by kernel_rfl))
  f13 := Tryd.func139.trans (congrArg some (by kernel_rfl))
  f14 := Tryd.func140.trans (congrArg some (by kernel_rfl))
  f24 := Tryd.func155.trans (congrArg some (by kernel_rfl))
  f25 := Tryd.func156.trans (congrArg some (by kernel_rfl))
  f26 := Tryd.func157.trans (congrArg some (by kernel_rfl))
  f27 := Tryd.func158.trans (congrArg some (by kernel_rfl))
  f28 := Tryd.func159.trans (congrArg some (by kernel_rfl))
  f29 := Tryd.func160.trans (congrArg some (by kernel_rfl))
  f30 := Tryd.func161.trans (congrArg some (by kernel_rfl))
  f31 := Tryd.func162.trans (congrArg some (by kernel_rfl))
  f32 := Tryd.func163.trans (congrArg some (by kernel_rfl))
  f33 := Tryd.func164.trans (congrArg some (by kernel_rfl))
  f34 := Tryd.func166.trans (congrArg some (by kernel_rfl))
  f35 := Tryd.func167.trans (congrArg some (by kernel_rfl))
  f36 := Tryd.func168.trans (congrArg some (by kernel_rfl))
  f37 := Tryd.func169.trans (congrArg some (by kernel_rfl))
  f38 := Tryd.func170.trans (congrArg some (by kernel_rfl))
  f39 := Tryd.func171.trans (congrArg some (by kernel_rfl))
  t0 := Tryd.underlying0
  a0 := Tryd.isAgg0
  z0 := Tryd.sizeOf0
  v0 := Tryd.zeroValue0
  i0 := by kernel_rfl
  t3 := Tryd.underlying3
  a3 := Tryd.isAgg3
  z3 := Tryd.sizeOf3
  v3 := Tryd.zeroValue3
  i3 := by kernel_rfl
  t4 := Tryd.underlying4
  a4 := Tryd.isAgg4
  z4 := Tryd.sizeOf4
  v4 := Tryd.zeroValue4
  i4 := by kernel_rfl
  t5 := Tryd.underlying5
  a5 := Tryd.isAgg5
  z5 := Tryd.sizeOf5
  v5 := Tryd.zeroValue5
  i5 := by kernel_rfl
  t9 := Tryd.underlying9
  a9 := Tryd.isAgg9
  z9 := Tryd.sizeOf9
  v9 := Tryd.zeroValue9
  i9 := by kernel_rfl
  t12 := Tryd.underlying12
  a12 := Tryd.isAgg12
  z12 := Tryd.sizeOf12
  v12 := Tryd.zeroValue12
  i12 := by kernel_rfl
  t17 := Tryd.underlying17
  a17 := Tryd.isAgg17
  z17 := Tryd.sizeOf17
  v17 := Tryd.zeroValue17
  i17 := by kernel_rfl
  t20 := Tryd.underlying20
  a20 := Tryd.isAgg20
  z20 := Tryd.sizeOf20
  v20 := Tryd.zeroValue20
  i20 := by kernel_rfl
  t26 := Tryd.underlying133
  a26 := Tryd.isAgg133
  z26 := Tryd.sizeOf133
  v26 := Tryd.zeroValue133
  i26 := by kernel_rfl
  t32 := Tryd.underlying144
  a32 := Tryd.isAgg144
  z32 := Tryd.sizeOf144
  v32 := Tryd.zeroValue144
  i32 := by kernel_rfl
  t33 := Tryd.underlying145
  a33 := Tryd.isAgg145
  z33 := Tryd.sizeOf145
  v33 := Tryd.zeroValue145
  i33 := by kernel_rfl
  t35 := Tryd.underlying147
  a35 := Tryd.isAgg147
  z35 := Tryd.sizeOf147
  v35 := Tryd.zeroValue147
  i35 := by kernel_rfl
  t37 := Tryd.underlying149
  a37 := Tryd.isAgg149
  z37 := Tryd.sizeOf149
  v37 := Tryd.zeroValue149
  i37 := by kernel_rfl
  t41 := Tryd.underlying136
  a41 := Tryd.isAgg136
  z41 := Tryd.sizeOf136
  v41 := Tryd.zeroValue136
  i41 := by kernel_rfl
  t44 := Tryd.underlying154
  a44 := Tryd.isAgg154
  z44 := Tryd.sizeOf154
  v44 := Tryd.zeroValue154
  i44 := by kernel_rfl
  t49 := Tryd.underlying64
  a49 := Tryd.isAgg64
  z49 := Tryd.sizeOf64
  v49 := Tryd.zeroValue64
  i49 := by kernel_rfl
  t51 := Tryd.underlying106
  a51 := Tryd.isAgg106
  z51 := Tryd.sizeOf106
  v51 := Tryd.zeroValue106
  i51 := by kernel_rfl
  t53 := Tryd.underlying169
  a53 := Tryd.isAgg169
  z53 := Tryd.sizeOf169
  v53 := Tryd.zeroValue169
  i53 := by kernel_rfl
  t54 := Tryd.underlying170
  a54 := Tryd.isAgg170
  z54 := Tryd.sizeOf170
  v54 := Tryd.zeroValue170
  i54 := by kernel_rfl
  t58 := Tryd.underlying174
  a58 := Tryd.isAgg174
  z58 := Tryd.sizeOf174
  v58 := Tryd.zeroValue174
  i58 := by kernel_rfl
  t60 := Tryd.underlying177
  a60 := Tryd.isAgg177
  z60 := Tryd.sizeOf177
  v60 := Tryd.zeroValue177
  i60 := by kernel_rfl
  t64 := Tryd.underlying180
  a64 := Tryd.isAgg180
  z64 := Tryd.sizeOf180
  v64 := Tryd.zeroValue180
  i64 := by kernel_rfl
  t66 := Tryd.underlying182
  a66 := Tryd.isAgg182
  z66 := Tryd.sizeOf182
  v66 := Tryd.zeroValue182
  i66 := by kernel_rfl
  t67 := Tryd.underlying183
  a67 := Tryd.isAgg183
  z67 := Tryd.sizeOf183
  v67 := Tryd.zeroValue183
  i67 := by kernel_rfl
  t75 := Tryd.underlying191
  a75 := Tryd.isAgg191
  z75 := Tryd.sizeOf191
  v75 := Tryd.zeroValue191
  i75 := by kernel_rfl
  t76 := Tryd.underlying192
  a76 := Tryd.isAgg192
  z76 := Tryd.sizeOf192
  v76 := Tryd.zeroValue192
  i76 := by kernel_rfl
  t77 := Tryd.underlying193
  a77 := Tryd.isAgg193
  z77 := Tryd.sizeOf193
  v77 := Tryd.zeroValue193
  i77 := by kernel_rfl
  t78 := Tryd.underlying194
  a78 := Tryd.isAgg194
  z78 := Tryd.sizeOf194
  v78 := Tryd.zeroValue194
  i78 := by kernel_rfl
  t79 := Tryd.underlying195
  a79 := Tryd.isAgg195
  z79 := Tryd.sizeOf195
  v79 := Tryd.zeroValue195
  i79 := by kernel_rfl
  t80 := Tryd.underlying196
  a80 := Tryd.isAgg196
  z80 := Tryd.sizeOf196
  v80 := Tryd.zeroValue196
  i80 := by kernel_rfl
  t82 := Tryd.underlying198
  a82 := Tryd.isAgg198
  z82 := Tryd.sizeOf198
  v82 := Tryd.zeroValue198
  i82 := by kernel_rfl
noncomputable def siT : TypeInfo := (Tryd.prog.info? 131).get (by kernel_rfl)
noncomputable def siE : TypeInfo := (Tryd.prog.info? 64).get (by kernel_rfl)
theorem siK (n : Nat) (h2 : 2 ≤ n) : Lib.swapperK n siE 10 = 6 := by
  have a : siE.hasPointers = false := by kernel_rfl
  have b : siE.bytes = 4 := by kernel_rfl
  have c : (n == 0) = false := by simp; omega
  have d : (n == 1) = false := by simp; omega
  simp [Lib.swapperK, a, b, c, d]
theorem siS (n : Nat) (h1 : n ≤ 1) : Lib.swapperK n siE 10 = n + 1 := by
  rcases Nat.eq_zero_or_pos n with h | h
  · subst h; simp [Lib.swapperK]
  · obtain rfl : n = 1 := by omega
    simp [Lib.swapperK]
theorem sortEnv : SortEnv Tryd.prog sRen 131 64 siT siE 10 where
  lays := sLays
  hi := by kernel_rfl
  hd := by kernel_rfl
  hpk := by kernel_rfl
  hie := by kernel_rfl
  hke := fun _ => by kernel_rfl
  hs1 := by kernel_rfl
  hagg := fun _ => by kernel_rfl
  tiny := fun n h1 => by
    rw [siS n h1]
    rcases Nat.eq_zero_or_pos n with h | h
    · subst h; exact ⟨146, by kernel_rfl⟩
    · obtain rfl : n = 1 := by omega
      exact ⟨147, by kernel_rfl⟩
  big := fun n h2 => ⟨151, true, by rw [siK n h2]; kernel_rfl, fun args W => run_callFunc_extern Tryd.func151 (by kernel_rfl) (by kernel_rfl) (by kernel_rfl) (e := Extern.ReflectliteSwapper.swap true) (by kernel_rfl) args W⟩
set_option maxHeartbeats 2000000 in
theorem less_u32 : LessU Tryd.prog 118 := by
  intro blk off c Bs size W G hs hc i j hi hj
  have ci := hc i hi
  have cj := hc j hj
  go_enter Tryd.func118, Tryd.ntmps118
  go_wp2
  go_quiet (fail)
  go_wp2
  go_ret
  exact ⟨rfl, nq, rfl⟩
theorem k_sort {bx : Nat} {ks : List Int} {a : Option Addr} {n cap U e' : Nat} {N : Chunk} {H : Fz} {L : Own} (hr : Row e' 1 a n cap (u32s ks) N) (h62 : n < 4611686018427387904) :
    Fn Tryd.prog 117 [.iface 131 (.slice a n cap), .func (.func 118) #[] [.pointer (some ⟨bx, 0, none⟩)].toArray] H (N :: [(bx, .cells [.slice a n cap].toArray U (0, 0))] :: L)
      (fun _ H' L' => H = H' ∧ ∃ N', L' = N' :: [(bx, .cells [.slice a n cap].toArray U (0, 0))] :: L ∧ Row e' 1 a n cap (u32s (srt ks)) N') :=
  sort_fn sortEnv Tryd.call117 Tryd.call118 less_u32 hr h62
end Go.Sx

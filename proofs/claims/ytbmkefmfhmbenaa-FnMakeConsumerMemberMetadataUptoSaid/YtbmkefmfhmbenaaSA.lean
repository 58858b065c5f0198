import Derived.Test.YtbmkefmfhmbenaaProg
import Derived.Test.YtbmkefmfhmbenaaSortL
import Derived.Deep.QuietTactic
import Derived.Lib.RowBridge
import Derived.Lib.SortBridge
import Derived.WalkKit
import Derived.Laws.Externs
import Derived.KernelRfl
set_option linter.unusedVariables false
set_option linter.unusedSimpArgs false
namespace Go.Sx
open Go.Proofs Go.Shelf Go.Lib Go.Sort Go.RowKit
def sRen : Go.Shelf.Ren := ⟨fun | 6 => 102 | 10 => 104 | 11 => 105 | 12 => 106 | 13 => 107 | 14 => 108 | 24 => 101 | 25 => 118 | 26 => 119 | 27 => 120 | 28 => 121 | 29 => 122 | 30 => 123 | 31 => 124 | 32 => 125 | 33 => 126 | 34 => 127 | 35 => 128 | 36 => 129 | 37 => 130 | 38 => 131 | 39 => 132 | n => n, fun | 0 => 0 | 3 => 3 | 4 => 4 | 5 => 5 | 9 => 9 | 12 => 12 | 17 => 17 | 20 => 20 | 26 => 140 | 32 => 141 | 33 => 142 | 35 => 144 | 37 => 146 | 41 => 131 | 44 => 151 | 49 => 58 | 51 => 112 | 53 => 157 | 54 => 158 | 58 => 162 | 60 => 164 | 64 => 168 | 66 => 170 | 67 => 171 | 75 => 179 | 76 => 180 | 77 => 181 | 78 => 182 | 79 => 183 | 80 => 184 | 82 => 186 | n => n, fun | n => n⟩
theorem sLays : LaysGg.n6 Try.prog sRen where
  mixed := by kernel_rfl
  f6 := Try.func102.trans (congrArg some (by kernel_rfl))
  f10 := Try.func104.trans (congrArg some (by kernel_rfl))
  f11 := Try.func105.trans (congrArg some (by kernel_rfl))
  f12 := Try.func106.trans (congrArg some (by kernel_rfl))
  f13 := Try.func107.trans (congrArg some (by kernel_rfl))
  f14 := Try.func108.trans (congrArg some (by kernel_rfl))
  f24 := Try.func101.trans (congrArg some (by kernel_rfl))
  f25 := Try.func118.trans (congrArg some (by kernel_rfl))
  f26 := Try.func119.trans (congrArg some (by kernel_rfl))
  f27 := Try.func120.trans (congrArg some (by kernel_rfl))
  f28 := Try.func121.trans (congrArg some (by kernel_rfl))
  f29 := Try.func122.trans (congrArg some (by kernel_rfl))
  f30 := Try.func123.trans (congrArg some (by kernel_rfl))
  f31 := Try.func124.trans (congrArg some (by kernel_rfl))
  f32 := Try.func125.trans (congrArg some (by kernel_rfl))
  f33 := Try.func126.trans (congrArg some (by kernel_rfl))
  f34 := Try.func127.trans (congrArg some (by kernel_rfl))
  f35 := Try.func128.trans (congrArg some (by kernel_rfl))
  f36 := Try.func129.trans (congrArg some (by kernel_rfl))
  f37 := Try.func130.trans (congrArg some (by kernel_rfl))
  f38 := Try.func131.trans (congrArg some (by kernel_rfl))
  f39 := Try.func132.trans (congrArg some (by kernel_rfl))
  t0 := Try.underlying0
  a0 := Try.isAgg0
  z0 := Try.sizeOf0
  v0 := Try.zeroValue0
  i0 := by kernel_rfl
  t3 := Try.underlying3
  a3 := Try.isAgg3
  z3 := Try.sizeOf3
  v3 := Try.zeroValue3
  i3 := by kernel_rfl
  t4 := Try.underlying4
  a4 := Try.isAgg4
  z4 := Try.sizeOf4
  v4 := Try.zeroValue4
  i4 := by kernel_rfl
  t5 := Try.underlying5
  a5 := Try.isAgg5
  z5 := Try.sizeOf5
  v5 := Try.zeroValue5
  i5 := by kernel_rfl
  t9 := Try.underlying9
  a9 := Try.isAgg9
  z9 := Try.sizeOf9
  v9 := Try.zeroValue9
  i9 := by kernel_rfl
  t12 := Try.underlying12
  a12 := Try.isAgg12
  z12 := Try.sizeOf12
  v12 := Try.zeroValue12
  i12 := by kernel_rfl
  t17 := Try.underlying17
  a17 := Try.isAgg17
  z17 := Try.sizeOf17
  v17 := Try.zeroValue17
  i17 := by kernel_rfl
  t20 := Try.underlying20
  a20 := Try.isAgg20
  z20 := Try.sizeOf20
  v20 := Try.zeroValue20
  i20 := by kernel_rfl
  t26 := Try.underlying140
  a26 := Try.isAgg140
  z26 := Try.sizeOf140
  v26 := Try.zeroValue140
  i26 := by kernel_rfl
  t32 := Try.underlying141
  a32 := Try.isAgg141
  z32 := Try.sizeOf141
  v32 := Try.zeroValue141
  i32 := by kernel_rfl
  t33 := Try.underlying142
  a33 := Try.isAgg142
  z33 := Try.sizeOf142
  v33 := Try.zeroValue142
  i33 := by kernel_rfl
  t35 := Try.underlying144
  a35 := Try.isAgg144
  z35 := Try.sizeOf144
  v35 := Try.zeroValue144
  i35 := by kernel_rfl
  t37 := Try.underlying146
  a37 := Try.isAgg146
  z37 := Try.sizeOf146
  v37 := Try.zeroValue146
  i37 := by kernel_rfl
  t41 := Try.underlying131
  a41 := Try.isAgg131
  z41 := Try.sizeOf131
  v41 := Try.zeroValue131
  i41 := by kernel_rfl
  t44 := Try.underlying151
  a44 := Try.isAgg151
  z44 := Try.sizeOf151
  v44 := Try.zeroValue151
  i44 := by kernel_rfl
  t49 := Try.underlying58
  a49 := Try.isAgg58
  z49 := Try.sizeOf58
  v49 := Try.zeroValue58
  i49 := by kernel_rfl
  t51 := Try.underlying112
  a51 := Try.isAgg112
  z51 := Try.sizeOf112
  v51 := Try.zeroValue112
  i51 := by kernel_rfl
  t53 := Try.underlying157
  a53 := Try.isAgg157
  z53 := Try.sizeOf157
  v53 := Try.zeroValue157
  i53 := by kernel_rfl
  t54 := Try.underlying158
  a54 := Try.isAgg158
  z54 := Try.sizeOf158
  v54 := Try.zeroValue158
  i54 := by kernel_rfl
  t58 := Try.underlying162
  a58 := Try.isAgg162
  z58 := Try.sizeOf162
  v58 := Try.zeroValue162
  i58 := by kernel_rfl
  t60 := Try.underlying164
  a60 := Try.isAgg164
  z60 := Try.sizeOf164
  v60 := Try.zeroValue164
  i60 := by kernel_rfl
  t64 := Try.underlying168
  a64 := Try.isAgg168
  z64 := Try.sizeOf168
  v64 := Try.zeroValue168
  i64 := by kernel_rfl
  t66 := Try.underlying170
  a66 := Try.isAgg170
  z66 := Try.sizeOf170
  v66 := Try.zeroValue170
  i66 := by kernel_rfl
  t67 := Try.underlying171
  a67 := Try.isAgg171
  z67 := Try.sizeOf171
  v67 := Try.zeroValue171
  i67 := by kernel_rfl
  t75 := Try.underlying179
  a75 := Try.isAgg179
  z75 := Try.sizeOf179
  v75 := Try.zeroValue179
  i75 := by kernel_rfl
  t76 := Try.underlying180
  a76 := Try.isAgg180
  z76 := Try.sizeOf180
  v76 := Try.zeroValue180
  i76 := by kernel_rfl
  t77 := Try.underlying181
  a77 := Try.isAgg181
  z77 := Try.sizeOf181
  v77 := Try.zeroValue181
  i77 := by kernel_rfl
  t78 := Try.underlying182
  a78 := Try.isAgg182
  z78 := Try.sizeOf182
  v78 := Try.zeroValue182
  i78 := by kernel_rfl
  t79 := Try.underlying183
  a79 := Try.isAgg183
  z79 := Try.sizeOf183
  v79 := Try.zeroValue183
  i79 := by kernel_rfl
  t80 := Try.underlying184
  a80 := Try.isAgg184
  z80 := Try.sizeOf184
  v80 := Try.zeroValue184
  i80 := by kernel_rfl
  t82 := Try.underlying186
  a82 := Try.isAgg186
  z82 := Try.sizeOf186
  v82 := Try.zeroValue186
  i82 := by kernel_rfl
noncomputable def siT : TypeInfo := (Try.prog.info? 138).get (by kernel_rfl)
noncomputable def siE : TypeInfo := (Try.prog.info? 58).get (by kernel_rfl)
theorem siK (n : Nat) (h2 : 2 ≤ n) : Lib.swapperK n siE 10 = 6 := by
  have a : siE.hasPointers = false := by kernel_rfl
  have b : siE.bytes = 4 := by kernel_rfl
  have c : (n == 0) = false := by simp; omega
  have d : (n == 1) = false := by simp; omega
  simp [Lib.swapperK, a, b, c, d]
theorem siS (n : Nat) (h1 : n ≤ 1) : Lib.swapperK n siE 10 = n + 1 := by
  rcases Nat.eq_zero_or_pos n with h | h
  · subst h; simp [Lib.swapperK]
  · obtain rfl : n = 1 := by omega
    simp [Lib.swapperK]
theorem sortEnv : SortEnv Try.prog sRen 138 58 siT siE 10 where
  lays := sLays
  hi := by kernel_rfl
  hd := by kernel_rfl
  hpk := by kernel_rfl
  hie := by kernel_rfl
  hke := fun _ => by kernel_rfl
  hs1 := by kernel_rfl
  hagg := fun _ => by kernel_rfl
  tiny := fun n h1 => by
    rw [siS n h1]
    rcases Nat.eq_zero_or_pos n with h | h
    · subst h; exact ⟨109, by kernel_rfl⟩
    · obtain rfl : n = 1 := by omega
      exact ⟨110, by kernel_rfl⟩
  big := fun n h2 => ⟨114, true, by rw [siK n h2]; kernel_rfl, fun args W => run_callFunc_extern Try.func114 (by kernel_rfl) (by kernel_rfl) (by kernel_rfl) (e := Extern.ReflectliteSwapper.swap true) (by kernel_rfl) args W⟩
set_option maxHeartbeats 2000000 in
theorem less_u32 : LessU Try.prog 103 := by
  intro blk off c Bs size W G hs hc i j hi hj
  have ci := hc i hi
  have cj := hc j hj
  go_enter Try.func103, Try.ntmps103
  go_wp2
  go_quiet (fail)
  go_wp2
  go_ret
  exact ⟨rfl, nq, rfl⟩
theorem k_sort {bx : Nat} {ks : List Int} {a : Option Addr} {n cap U e' : Nat} {N : Chunk} {H : Fz} {L : Own} (hr : Row e' 1 a n cap (u32s ks) N) (h62 : n < 4611686018427387904) :
    Fn Try.prog 102 [.iface 138 (.slice a n cap), .func (.func 103) #[] [.pointer (some ⟨bx, 0, none⟩)].toArray] H (N :: [(bx, .cells [.slice a n cap].toArray U (0, 0))] :: L)
      (fun _ H' L' => H = H' ∧ ∃ N', L' = N' :: [(bx, .cells [.slice a n cap].toArray U (0, 0))] :: L ∧ Row e' 1 a n cap (u32s (srt ks)) N') :=
  sort_fn sortEnv Try.call102 Try.call103 less_u32 hr h62
end Go.Sx

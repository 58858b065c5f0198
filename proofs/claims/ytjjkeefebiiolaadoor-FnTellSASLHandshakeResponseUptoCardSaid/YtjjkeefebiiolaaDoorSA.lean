import Derived.Test.YtjjkeefebiiolaaDoorProg
import Derived.Test.YtjjkeefebiiolaaDoorLibF
import Derived.Deep.QuietTactic
import Derived.Lib.RowBridge
import Derived.Lib.SortBridge
import Derived.WalkKit
import Derived.Laws.Externs
import Derived.KernelRfl
set_option linter.unusedVariables false
set_option linter.unusedSimpArgs false
namespace Go.Sx
open Go.Proofs Go.Shelf Go.Lib Go.Sort Go.RowKit
def sRen : Go.Shelf.Ren := ⟨fun | 6 => 64 | 10 => 73 | 11 => 74 | 12 => 75 | 13 => 76 | 14 => 77 | 24 => 89 | 25 => 90 | 26 => 91 | 27 => 92 | 28 => 93 | 29 => 94 | 30 => 95 | 31 => 96 | 32 => 97 | 33 => 98 | 34 => 99 | 35 => 100 | 36 => 101 | 37 => 102 | 38 => 103 | 39 => 104 | n => n, fun | 0 => 0 | 3 => 3 | 4 => 4 | 5 => 5 | 9 => 9 | 12 => 12 | 17 => 17 | 20 => 20 | 26 => 111 | 32 => 120 | 33 => 121 | 35 => 123 | 37 => 125 | 41 => 102 | 44 => 130 | 49 => 63 | 51 => 80 | 53 => 140 | 54 => 141 | 58 => 145 | 60 => 147 | 64 => 150 | 66 => 152 | 67 => 153 | 75 => 161 | 76 => 162 | 77 => 163 | 78 => 164 | 79 => 165 | 80 => 166 | 82 => 168 | n => n, fun | n => n⟩
theorem sLays : LaysGg.n6 Tryd.prog sRen where
  mixed := by kernel_rfl
  f6 := Tryd.func64.trans (congrArg some (by kernel_rfl))
  f10 := Tryd.func73.trans (congrArg some (by kernel_rfl))
  f11 := Tryd.func74.trans (congrArg some (by kernel_rfl))
  f12 := Tryd.func75.trans (congrArg some (by kernel_rfl))
  f13 := Tryd.func76.trans (congrArg some (by kernel_rfl))
  f14 := Tryd.func77.trans (congrArg some (by kernel_rfl))
  f24 := Tryd.func89.trans (congrArg some (by kernel_rfl))
  f25 := Tryd.func90.trans (congrArg some (by kernel_rfl))
  f26 := Tryd.func91.trans (congrArg some (by kernel_rfl))
  f27 := Tryd.func92.trans (congrArg some (by kernel_rfl))
  f28 := Tryd.func93.trans (congrArg some (by kernel_rfl))
  f29 := Tryd.func94.trans (congrArg some (by kernel_rfl))
  f30 := Tryd.func95.trans (congrArg some (by kernel_rfl))
  f31 := Tryd.func96.trans (congrArg some (by kernel_rfl))
  f32 := Tryd.func97.trans (congrArg some (by kernel_rfl))
  f33 := Tryd.func98.trans (congrArg some (by kernel_rfl))
  f34 := Tryd.func99.trans (congrArg some (by kernel_rfl))
  f35 := Tryd.func100.trans (congrArg some (by kernel_rfl))
  f36 := Tryd.func101.trans (congrArg some (by kernel_rfl))
  f37 := Tryd.func102.trans (congrArg some (by kernel_rfl))
  f38 := Tryd.func103.trans (congrArg some (by kernel_rfl))
  f39 := Tryd.func104.trans (congrArg some (by kernel_rfl))
  t0 := Tryd.underlying0
  a0 := Tryd.isAgg0
  z0 := Tryd.sizeOf0
  v0 := Tryd.zeroValue0
  i0 := by kernel_rfl
  t3 := Tryd.underlying3
  a3 := Tryd.isAgg3
  z3 := Tryd.sizeOf3
  v3 := Tryd.zeroValue3
  i3 := by kernel_rfl
  t4 := Tryd.underlying4
  a4 := Tryd.isAgg4
  z4 := Tryd.sizeOf4
  v4 := Tryd.zeroValue4
  i4 := by kernel_rfl
  t5 := Tryd.underlying5
  a5 := Tryd.isAgg5
  z5 := Tryd.sizeOf5
  v5 := Tryd.zeroValue5
  i5 := by kernel_rfl
  t9 := Tryd.underlying9
  a9 := Tryd.isAgg9
  z9 := Tryd.sizeOf9
  v9 := Tryd.zeroValue9
  i9 := by kernel_rfl
  t12 := Tryd.underlying12
  a12 := Tryd.isAgg12
  z12 := Tryd.sizeOf12
  v12 := Tryd.zeroValue12
  i12 := by kernel_rfl
  t17 := Tryd.underlying17
  a17 := Tryd.isAgg17
  z17 := Tryd.sizeOf17
  v17 := Tryd.zeroValue17
  i17 := by kernel_rfl
  t20 := Tryd.underlying20
  a20 := Tryd.isAgg20
  z20 := Tryd.sizeOf20
  v20 := Tryd.zeroValue20
  i20 := by kernel_rfl
  t26 := Tryd.underlying111
  a26 := Tryd.isAgg111
  z26 := Tryd.sizeOf111
  v26 := Tryd.zeroValue111
  i26 := by kernel_rfl
  t32 := Tryd.underlying120
  a32 := Tryd.isAgg120
  z32 := Tryd.sizeOf120
  v32 := Tryd.zeroValue120
  i32 := by kernel_rfl
  t33 := Tryd.underlying121
  a33 := Tryd.isAgg121
  z33 := Tryd.sizeOf121
  v33 := Tryd.zeroValue121
  i33 := by kernel_rfl
  t35 := Tryd.underlying123
  a35 := Tryd.isAgg123
  z35 := Tryd.sizeOf123
  v35 := Tryd.zeroValue123
  i35 := by kernel_rfl
  t37 := Tryd.underlying125
  a37 := Tryd.isAgg125
  z37 := Tryd.sizeOf125
  v37 := Tryd.zeroValue125
  i37 := by kernel_rfl
  t41 := Tryd.underlying102
  a41 := Tryd.isAgg102
  z41 := Tryd.sizeOf102
  v41 := Tryd.zeroValue102
  i41 := by kernel_rfl
  t44 := Tryd.underlying130
  a44 := Tryd.isAgg130
  z44 := Tryd.sizeOf130
  v44 := Tryd.zeroValue130
  i44 := by kernel_rfl
  t49 := Tryd.underlying63
  a49 := Tryd.isAgg63
  z49 := Tryd.sizeOf63
  v49 := Tryd.zeroValue63
  i49 := by kernel_rfl
  t51 := Tryd.underlying80
  a51 := Tryd.isAgg80
  z51 := Tryd.sizeOf80
  v51 := Tryd.zeroValue80
  i51 := by kernel_rfl
  t53 := Tryd.underlying140
  a53 := Tryd.isAgg140
  z53 := Tryd.sizeOf140
  v53 := Tryd.zeroValue140
  i53 := by kernel_rfl
  t54 := Tryd.underlying141
  a54 := Tryd.isAgg141
  z54 := Tryd.sizeOf141
  v54 := Tryd.zeroValue141
  i54 := by kernel_rfl
  t58 := Tryd.underlying145
  a58 := Tryd.isAgg145
  z58 := Tryd.sizeOf145
  v58 := Tryd.zeroValue145
  i58 := by kernel_rfl
  t60 := Tryd.underlying147
  a60 := Tryd.isAgg147
  z60 := Tryd.sizeOf147
  v60 := Tryd.zeroValue147
  i60 := by kernel_rfl
  t64 := Tryd.underlying150
  a64 := Tryd.isAgg150
  z64 := Tryd.sizeOf150
  v64 := Tryd.zeroValue150
  i64 := by kernel_rfl
  t66 := Tryd.underlying152
  a66 := Tryd.isAgg152
  z66 := Tryd.sizeOf152
  v66 := Tryd.zeroValue152
  i66 := by kernel_rfl
  t67 := Tryd.underlying153
  a67 := Tryd.isAgg153
  z67 := Tryd.sizeOf153
  v67 := Tryd.zeroValue153
  i67 := by kernel_rfl
  t75 := Tryd.underlying161
  a75 := Tryd.isAgg161
  z75 := Tryd.sizeOf161
  v75 := Tryd.zeroValue161
  i75 := by kernel_rfl
  t76 := Tryd.underlying162
  a76 := Tryd.isAgg162
  z76 := Tryd.sizeOf162
  v76 := Tryd.zeroValue162
  i76 := by kernel_rfl
  t77 := Tryd.underlying163
  a77 := Tryd.isAgg163
  z77 := Tryd.sizeOf163
  v77 := Tryd.zeroValue163
  i77 := by kernel_rfl
  t78 := Tryd.underlying164
  a78 := Tryd.isAgg164
  z78 := Tryd.sizeOf164
  v78 := Tryd.zeroValue164
  i78 := by kernel_rfl
  t79 := Tryd.underlying165
  a79 := Tryd.isAgg165
  z79 := Tryd.sizeOf165
  v79 := Tryd.zeroValue165
  i79 := by kernel_rfl
  t80 := Tryd.underlying166
  a80 := Tryd.isAgg166
  z80 := Tryd.sizeOf166
  v80 := Tryd.zeroValue166
  i80 := by kernel_rfl
  t82 := Tryd.underlying168
  a82 := Tryd.isAgg168
  z82 := Tryd.sizeOf168
  v82 := Tryd.zeroValue168
  i82 := by kernel_rfl
noncomputable def siT : TypeInfo := (Tryd.prog.info? 109).get (by kernel_rfl)
noncomputable def siE : TypeInfo := (Tryd.prog.info? 63).get (by kernel_rfl)
theorem siK (n : Nat) (h2 : 2 ≤ n) : Lib.swapperK n siE 10 = 6 := by
  have a : siE.hasPointers = false := by kernel_rfl
  have b : siE.bytes = 4 := by kernel_rfl
  have c : (n == 0) = false := by simp; omega
  have d : (n == 1) = false := by simp; omega
  simp [Lib.swapperK, a, b, c, d]
theorem siS (n : Nat) (h1 : n ≤ 1) : Lib.swapperK n siE 10 = n + 1 := by
  rcases Nat.eq_zero_or_pos n with h | h
  · subst h; simp [Lib.swapperK]
  · obtain rfl : n = 1 := by omega
    simp [Lib.swapperK]
theorem sortEnv : SortEnv Tryd.prog sRen 109 63 siT siE 10 where
  lays := sLays
  hi := by kernel_rfl
  hd := by kernel_rfl
  hpk := by kernel_rfl
  hie := by kernel_rfl
  hke := fun _ => by kernel_rfl
  hs1 := by kernel_rfl
  hagg := fun _ => by kernel_rfl
  tiny := fun n h1 => by
    rw [siS n h1]
    rcases Nat.eq_zero_or_pos n with h | h
    · subst h; exact ⟨80, by kernel_rfl⟩
    · obtain rfl : n = 1 := by omega
      exact ⟨81, by kernel_rfl⟩
  big := fun n h2 => ⟨85, true, by rw [siK n h2]; kernel_rfl, fun args W => run_callFunc_extern Tryd.func85 (by kernel_rfl) (by kernel_rfl) (by kernel_rfl) (e := Extern.ReflectliteSwapper.swap true) (by kernel_rfl) args W⟩
set_option maxHeartbeats 2000000 in
theorem less_u32 : LessU Tryd.prog 65 := by
  intro blk off c Bs size W G hs hc i j hi hj
  have ci := hc i hi
  have cj := hc j hj
  go_enter Tryd.func65, Tryd.ntmps65
  go_wp2
  go_quiet (fail)
  go_wp2
  go_ret
  exact ⟨rfl, nq, rfl⟩
theorem k_sort {bx : Nat} {ks : List Int} {a : Option Addr} {n cap U e' : Nat} {N : Chunk} {H : Fz} {L : Own} (hr : Row e' 1 a n cap (u32s ks) N) (h62 : n < 4611686018427387904) :
    Fn Tryd.prog 64 [.iface 109 (.slice a n cap), .func (.func 65) #[] [.pointer (some ⟨bx, 0, none⟩)].toArray] H (N :: [(bx, .cells [.slice a n cap].toArray U (0, 0))] :: L)
      (fun _ H' L' => H = H' ∧ ∃ N', L' = N' :: [(bx, .cells [.slice a n cap].toArray U (0, 0))] :: L ∧ Row e' 1 a n cap (u32s (srt ks)) N') :=
  sort_fn sortEnv Tryd.call64 Tryd.call65 less_u32 hr h62
end Go.Sx

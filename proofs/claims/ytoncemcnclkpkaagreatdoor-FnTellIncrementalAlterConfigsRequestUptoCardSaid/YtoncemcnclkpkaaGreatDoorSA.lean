import Derived.Test.YtoncemcnclkpkaaGreatDoorProg
import Derived.Test.YtoncemcnclkpkaaGreatDoorLibF
import Derived.Deep.QuietTactic
import Derived.Lib.RowBridge
import Derived.Lib.SortBridge
import Derived.WalkKit
import Derived.Laws.Externs
import Derived.KernelRfl
set_option linter.unusedVariables false
set_option linter.unusedSimpArgs false
namespace Go.Sx
open Go.Proofs Go.Shelf Go.Lib Go.Sort Go.RowKit
def sRen : Go.Shelf.Ren := ⟨fun | 6 => 118 | 10 => 149 | 11 => 150 | 12 => 151 | 13 => 152 | 14 => 153 | 24 => 167 | 25 => 168 | 26 => 169 | 27 => 170 | 28 => 171 | 29 => 172 | 30 => 173 | 31 => 174 | 32 => 175 | 33 => 176 | 34 => 177 | 35 => 178 | 36 => 179 | 37 => 180 | 38 => 181 | 39 => 182 | n => n, fun | 0 => 0 | 3 => 3 | 4 => 4 | 5 => 5 | 9 => 9 | 12 => 12 | 17 => 17 | 20 => 20 | 26 => 154 | 32 => 182 | 33 => 183 | 35 => 185 | 37 => 187 | 41 => 157 | 44 => 192 | 49 => 64 | 51 => 100 | 53 => 201 | 54 => 202 | 58 => 206 | 60 => 208 | 64 => 212 | 66 => 214 | 67 => 215 | 75 => 223 | 76 => 224 | 77 => 225 | 78 => 226 | 79 => 227 | 80 => 228 | 82 => 230 | n => n, fun | n => n⟩
theorem sLays : LaysGg.n6 Tryz.prog sRen where
  mixed := by kernel_rfl
  f6 := Tryz.func118.trans (congrArg some (by kernel_rfl))
  f10 := Tryz.func149.trans (congrArg some (by kernel_rfl))
  f11 := Tryz.func150.trans (congrArg some (by kernel_rfl))
  f12 := Tryz.func151.trans (congrArg some (by kernel_rfl))
  f13 := Tryz.func152.trans (congrArg some (by kernel_rfl))
  f14 := Tryz.func153.trans (congrArg some (by kernel_rfl))
  f24 := Tryz.func167.trans (congrArg some (by kernel_rfl))
  f25 := Tryz.func168.trans (congrArg some (by kernel_rfl))
  f26 := Tryz.func169.trans (congrArg some (by kernel_rfl))
  f27 := Tryz.func170.trans (congrArg some (by kernel_rfl))
  f28 := Tryz.func171.trans (congrArg some (by kernel_rfl))
  f29 := Tryz.func172.trans (congrArg some (by kernel_rfl))
  f30 := Tryz.func173.trans (congrArg some (by kernel_rfl))
  f31 := Tryz.func174.trans (congrArg some (by kernel_rfl))
  f32 := Tryz.func175.trans (congrArg some (by kernel_rfl))
  f33 := Tryz.func176.trans (congrArg some (by kernel_rfl))
  f34 := Tryz.func177.trans (congrArg some (by kernel_rfl))
  f35 := Tryz.func178.trans (congrArg some (by kernel_rfl))
  f36 := Tryz.func179.trans (congrArg some (by kernel_rfl))
  f37 := Tryz.func180.trans (congrArg some (by kernel_rfl))
  f38 := Tryz.func181.trans (congrArg some (by kernel_rfl))
  f39 := Tryz.func182.trans (congrArg some (by kernel_rfl))
  t0 := Tryz.underlying0
  a0 := Tryz.isAgg0
  z0 := Tryz.sizeOf0
  v0 := Tryz.zeroValue0
  i0 := by kernel_rfl
  t3 := Tryz.underlying3
  a3 := Tryz.isAgg3
  z3 := Tryz.sizeOf3
  v3 := Tryz.zeroValue3
  i3 := by kernel_rfl
  t4 := Tryz.underlying4
  a4 := Tryz.isAgg4
  z4 := Tryz.sizeOf4
  v4 := Tryz.zeroValue4
  i4 := by kernel_rfl
  t5 := Tryz.underlying5
  a5 := Tryz.isAgg5
  z5 := Tryz.sizeOf5
  v5 := Tryz.zeroValue5
  i5 := by kernel_rfl
  t9 := Tryz.underlying9
  a9 := Tryz.isAgg9
  z9 := Tryz.sizeOf9
  v9 := Tryz.zeroValue9
  i9 := by kernel_rfl
  t12 := Tryz.underlying12
  a12 := Tryz.isAgg12
  z12 := Tryz.sizeOf12
  v12 := Tryz.zeroValue12
  i12 := by kernel_rfl
  t17 := Tryz.underlying17
  a17 := Tryz.isAgg17
  z17 := Tryz.sizeOf17
  v17 := Tryz.zeroValue17
  i17 := by kernel_rfl
  t20 := Tryz.underlying20
  a20 := Tryz.isAgg20
  z20 := Tryz.sizeOf20
  v20 := Tryz.zeroValue20
  i20 := by kernel_rfl
  t26 := Tryz.underlying154
  a26 := Tryz.isAgg154
  z26 := Tryz.sizeOf154
  v26 := Tryz.zeroValue154
  i26 := by kernel_rfl
  t32 := Tryz.underlying182
  a32 := Tryz.isAgg182
  z32 := Tryz.sizeOf182
  v32 := Tryz.zeroValue182
  i32 := by kernel_rfl
  t33 := Tryz.underlying183
  a33 := Tryz.isAgg183
  z33 := Tryz.sizeOf183
  v33 := Tryz.zeroValue183
  i33 := by kernel_rfl
  t35 := Tryz.underlying185
  a35 := Tryz.isAgg185
  z35 := Tryz.sizeOf185
  v35 := Tryz.zeroValue185
  i35 := by kernel_rfl
  t37 := Tryz.underlying187
  a37 := Tryz.isAgg187
  z37 := Tryz.sizeOf187
  v37 := Tryz.zeroValue187
  i37 := by kernel_rfl
  t41 := Tryz.underlying157
  a41 := Tryz.isAgg157
  z41 := Tryz.sizeOf157
  v41 := Tryz.zeroValue157
  i41 := by kernel_rfl
  t44 := Tryz.underlying192
  a44 := Tryz.isAgg192
  z44 := Tryz.sizeOf192
  v44 := Tryz.zeroValue192
  i44 := by kernel_rfl
  t49 := Tryz.underlying64
  a49 := Tryz.isAgg64
  z49 := Tryz.sizeOf64
  v49 := Tryz.zeroValue64
  i49 := by kernel_rfl
  t51 := Tryz.underlying100
  a51 := Tryz.isAgg100
  z51 := Tryz.sizeOf100
  v51 := Tryz.zeroValue100
  i51 := by kernel_rfl
  t53 := Tryz.underlying201
  a53 := Tryz.isAgg201
  z53 := Tryz.sizeOf201
  v53 := Tryz.zeroValue201
  i53 := by kernel_rfl
  t54 := Tryz.underlying202
  a54 := Tryz.isAgg202
  z54 := Tryz.sizeOf202
  v54 := Tryz.zeroValue202
  i54 := by kernel_rfl
  t58 := Tryz.underlying206
  a58 := Tryz.isAgg206
  z58 := Tryz.sizeOf206
  v58 := Tryz.zeroValue206
  i58 := by kernel_rfl
  t60 := Tryz.underlying208
  a60 := Tryz.isAgg208
  z60 := Tryz.sizeOf208
  v60 := Tryz.zeroValue208
  i60 := by kernel_rfl
  t64 := Tryz.underlying212
  a64 := Tryz.isAgg212
  z64 := Tryz.sizeOf212
  v64 := Tryz.zeroValue212
  i64 := by kernel_rfl
  t66 := Tryz.underlying214
  a66 := Tryz.isAgg214
  z66 := Tryz.sizeOf214
  v66 := Tryz.zeroValue214
  i66 := by kernel_rfl
  t67 := Tryz.underlying215
  a67 := Tryz.isAgg215
  z67 := Tryz.sizeOf215
  v67 := Tryz.zeroValue215
  i67 := by kernel_rfl
  t75 := Tryz.underlying223
  a75 := Tryz.isAgg223
  z75 := Tryz.sizeOf223
  v75 := Tryz.zeroValue223
  i75 := by kernel_rfl
  t76 := Tryz.underlying224
  a76 := Tryz.isAgg224
  z76 := Tryz.sizeOf224
  v76 := Tryz.zeroValue224
  i76 := by kernel_rfl
  t77 := Tryz.underlying225
  a77 := Tryz.isAgg225
  z77 := Tryz.sizeOf225
  v77 := Tryz.zeroValue225
  i77 := by kernel_rfl
  t78 := Tryz.underlying226
  a78 := Tryz.isAgg226
  z78 := Tryz.sizeOf226
  v78 := Tryz.zeroValue226
  i78 := by kernel_rfl
  t79 := Tryz.underlying227
  a79 := Tryz.isAgg227
  z79 := Tryz.sizeOf227
  v79 := Tryz.zeroValue227
  i79 := by kernel_rfl
  t80 := Tryz.underlying228
  a80 := Tryz.isAgg228
  z80 := Tryz.sizeOf228
  v80 := Tryz.zeroValue228
  i80 := by kernel_rfl
  t82 := Tryz.underlying230
  a82 := Tryz.isAgg230
  z82 := Tryz.sizeOf230
  v82 := Tryz.zeroValue230
  i82 := by kernel_rfl
noncomputable def siT : TypeInfo := (Tryz.prog.info? 152).get (by kernel_rfl)
noncomputable def siE : TypeInfo := (Tryz.prog.info? 64).get (by kernel_rfl)
theorem siK (n : Nat) (h2 : 2 ≤ n) : Lib.swapperK n siE 10 = 6 := by
  have a : siE.hasPointers = false := by kernel_rfl
  have b : siE.bytes = 4 := by kernel_rfl
  have c : (n == 0) = false := by simp; omega
  have d : (n == 1) = false := by simp; omega
  simp [Lib.swapperK, a, b, c, d]
theorem siS (n : Nat) (h1 : n ≤ 1) : Lib.swapperK n siE 10 = n + 1 := by
  rcases Nat.eq_zero_or_pos n with h | h
  · subst h; simp [Lib.swapperK]
  · obtain rfl : n = 1 := by omega
    simp [Lib.swapperK]
theorem sortEnv : SortEnv Tryz.prog sRen 152 64 siT siE 10 where
  lays := sLays
  hi := by kernel_rfl
  hd := by kernel_rfl
  hpk := by kernel_rfl
  hie := by kernel_rfl
  hke := fun _ => by kernel_rfl
  hs1 := by kernel_rfl
  hagg := fun _ => by kernel_rfl
  tiny := fun n h1 => by
    rw [siS n h1]
    rcases Nat.eq_zero_or_pos n with h | h
    · subst h; exact ⟨158, by kernel_rfl⟩
    · obtain rfl : n = 1 := by omega
      exact ⟨159, by kernel_rfl⟩
  big := fun n h2 => ⟨163, true, by rw [siK n h2]; kernel_rfl, fun args W => run_callFunc_extern Tryz.func163 (by kernel_rfl) (by kernel_rfl) (by kernel_rfl) (e := Extern.ReflectliteSwapper.swap true) (by kernel_rfl) args W⟩
set_option maxHeartbeats 2000000 in
theorem less_u32 : LessU Tryz.prog 119 := by
  intro blk off c Bs size W G hs hc i j hi hj
  have ci := hc i hi
  have cj := hc j hj
  go_enter Tryz.func119, Tryz.ntmps119
  go_wp2
  go_quiet (fail)
  go_wp2
  go_ret
  exact ⟨rfl, nq, rfl⟩
theorem k_sort {bx : Nat} {ks : List Int} {a : Option Addr} {n cap U e' : Nat} {N : Chunk} {H : Fz} {L : Own} (hr : Row e' 1 a n cap (u32s ks) N) (h62 : n < 4611686018427387904) :
    Fn Tryz.prog 118 [.iface 152 (.slice a n cap), .func (.func 119) #[] [.pointer (some ⟨bx, 0, none⟩)].toArray] H (N :: [(bx, .cells [.slice a n cap].toArray U (0, 0))] :: L)
      (fun _ H' L' => H = H' ∧ ∃ N', L' = N' :: [(bx, .cells [.slice a n cap].toArray U (0, 0))] :: L ∧ Row e' 1 a n cap (u32s (srt ks)) N') :=
  sort_fn sortEnv Tryz.call118 Tryz.call119 less_u32 hr h62
end Go.Sx

import Derived.Test.YtdnbgafbhifhoaaDoorProg
import Derived.Test.YtdnbgafbhifhoaaDoorLibF
import Derived.Deep.QuietTactic
import Derived.Lib.RowBridge
import Derived.Lib.SortBridge
import Derived.WalkKit
import Derived.Laws.Externs
import Derived.KernelRfl
set_option linter.unusedVariables false
set_option linter.unusedSimpArgs false
namespace Go.Sx
open Go.Proofs Go.Shelf Go.Lib Go.Sort Go.RowKit
def sRen : Go.Shelf.Ren := ⟨fun | 6 => 191 | 10 => 242 | 11 => 243 | 12 => 244 | 13 => 245 | 14 => 246 | 24 => 265 | 25 => 266 | 26 => 267 | 27 => 268 | 28 => 269 | 29 => 270 | 30 => 271 | 31 => 272 | 32 => 273 | 33 => 274 | 34 => 277 | 35 => 278 | 36 => 279 | 37 => 280 | 38 => 281 | 39 => 282 | n => n, fun | 0 => 0 | 3 => 3 | 4 => 4 | 5 => 5 | 9 => 9 | 12 => 12 | 17 => 17 | 20 => 20 | 26 => 213 | 32 => 261 | 33 => 262 | 35 => 264 | 37 => 266 | 41 => 258 | 44 => 271 | 49 => 58 | 51 => 202 | 53 => 282 | 54 => 283 | 58 => 287 | 60 => 290 | 64 => 293 | 66 => 295 | 67 => 296 | 75 => 304 | 76 => 305 | 77 => 306 | 78 => 307 | 79 => 308 | 80 => 309 | 82 => 311 | n => n, fun | n => n⟩
theorem sLays : LaysGg.n6 Tryd.prog sRen where
  mixed := by kernel_rfl
  f6 := Tryd.func191.trans (congrArg some (by kernel_rfl))
  f10 := Tryd.func242.trans (congrArg some (by kernel_rfl))
  f11 := Tryd.func243.trans (congrArg some (by kernel_rfl))
  f12 := Tryd.func244.trans (congrArg some (by kernel_rfl))
  f13 := Tryd.func245.trans (congrArg some (by kernel_rfl))
  f14 := Tryd.func246.trans (congrArg some (by kernel_rfl))
  f24 := Tryd.func265.trans (congrArg some (by kernel_rfl))
  f25 := Tryd.func266.trans (congrArg some (by kernel_rfl))
  f26 := Tryd.func267.trans (congrArg some (by kernel_rfl))
  f27 := Tryd.func268.trans (congrArg some (by kernel_rfl))
  f28 := Tryd.func269.trans (congrArg some (by kernel_rfl))
  f29 := Tryd.func270.trans (congrArg some (by kernel_rfl))
  f30 := Tryd.func271.trans (congrArg some (by kernel_rfl))
  f31 := Tryd.func272.trans (congrArg some (by kernel_rfl))
  f32 := Tryd.func273.trans (congrArg some (by kernel_rfl))
  f33 := Tryd.func274.trans (congrArg some (by kernel_rfl))
  f34 := Tryd.func277.trans (congrArg some (by kernel_rfl))
  f35 := Tryd.func278.trans (congrArg some (by kernel_rfl))
  f36 := Tryd.func279.trans (congrArg some (by kernel_rfl))
  f37 := Tryd.func280.trans (congrArg some (by kernel_rfl))
  f38 := Tryd.func281.trans (congrArg some (by kernel_rfl))
  f39 := Tryd.func282.trans (congrArg some (by kernel_rfl))
  t0 := Tryd.underlying0
  a0 := Tryd.isAgg0
  z0 := Tryd.sizeOf0
  v0 := Tryd.zeroValue0
  i0 := by kernel_rfl
  t3 := Tryd.underlying3
  a3 := Tryd.isAgg3
  z3 := Tryd.sizeOf3
  v3 := Tryd.zeroValue3
  i3 := by kernel_rfl
  t4 := Tryd.underlying4
  a4 := Tryd.isAgg4
  z4 := Tryd.sizeOf4
  v4 := Tryd.zeroValue4
  i4 := by kernel_rfl
  t5 := Tryd.underlying5
  a5 := Tryd.isAgg5
  z5 := Tryd.sizeOf5
  v5 := Tryd.zeroValue5
  i5 := by kernel_rfl
  t9 := Tryd.underlying9
  a9 := Tryd.isAgg9
  z9 := Tryd.sizeOf9
  v9 := Tryd.zeroValue9
  i9 := by kernel_rfl
  t12 := Tryd.underlying12
  a12 := Tryd.isAgg12
  z12 := Tryd.sizeOf12
  v12 := Tryd.zeroValue12
  i12 := by kernel_rfl
  t17 := Tryd.underlying17
  a17 := Tryd.isAgg17
  z17 := Tryd.sizeOf17
  v17 := Tryd.zeroValue17
  i17 := by kernel_rfl
  t20 := Tryd.underlying20
  a20 := Tryd.isAgg20
  z20 := Tryd.sizeOf20
  v20 := Tryd.zeroValue20
  i20 := by kernel_rfl
  t26 := Tryd.underlying213
  a26 := Tryd.isAgg213
  z26 := Tryd.sizeOf213
  v26 := Tryd.zeroValue213
  i26 := by kernel_rfl
  t32 := Tryd.underlying261
  a32 := Tryd.isAgg261
  z32 := Tryd.sizeOf261
  v32 := Tryd.zeroValue261
  i32 := by kernel_rfl
  t33 := Tryd.underlying262
  a33 := Tryd.isAgg262
  z33 := Tryd.sizeOf262
  v33 := Tryd.zeroValue262
  i33 := by kernel_rfl
  t35 := Tryd.underlying264
  a35 := Tryd.isAgg264
  z35 := Tryd.sizeOf264
  v35 := Tryd.zeroValue264
  i35 := by kernel_rfl
  t37 := Tryd.underlying266
  a37 := Tryd.isAgg266
  z37 := Tryd.sizeOf266
  v37 := Tryd.zeroValue266
  i37 := by kernel_rfl
  t41 := Tryd.underlying258
  a41 := Tryd.isAgg258
  z41 := Tryd.sizeOf258
  v41 := Tryd.zeroValue258
  i41 := by kernel_rfl
  t44 := Tryd.underlying271
  a44 := Tryd.isAgg271
  z44 := Tryd.sizeOf271
  v44 := Tryd.zeroValue271
  i44 := by kernel_rfl
  t49 := Tryd.underlying58
  a49 := Tryd.isAgg58
  z49 := Tryd.sizeOf58
  v49 := Tryd.zeroValue58
  i49 := by kernel_rfl
  t51 := Tryd.underlying202
  a51 := Tryd.isAgg202
  z51 := Tryd.sizeOf202
  v51 := Tryd.zeroValue202
  i51 := by kernel_rfl
  t53 := Tryd.underlying282
  a53 := Tryd.isAgg282
  z53 := Tryd.sizeOf282
  v53 := Tryd.zeroValue282
  i53 := by kernel_rfl
  t54 := Tryd.underlying283
  a54 := Tryd.isAgg283
  z54 := Tryd.sizeOf283
  v54 := Tryd.zeroValue283
  i54 := by kernel_rfl
  t58 := Tryd.underlying287
  a58 := Tryd.isAgg287
  z58 := Tryd.sizeOf287
  v58 := Tryd.zeroValue287
  i58 := by kernel_rfl
  t60 := Tryd.underlying290
  a60 := Tryd.isAgg290
  z60 := Tryd.sizeOf290
  v60 := Tryd.zeroValue290
  i60 := by kernel_rfl
  t64 := Tryd.underlying293
  a64 := Tryd.isAgg293
  z64 := Tryd.sizeOf293
  v64 := Tryd.zeroValue293
  i64 := by kernel_rfl
  t66 := Tryd.underlying295
  a66 := Tryd.isAgg295
  z66 := Tryd.sizeOf295
  v66 := Tryd.zeroValue295
  i66 := by kernel_rfl
  t67 := Tryd.underlying296
  a67 := Tryd.isAgg296
  z67 := Tryd.sizeOf296
  v67 := Tryd.zeroValue296
  i67 := by kernel_rfl
  t75 := Tryd.underlying304
  a75 := Tryd.isAgg304
  z75 := Tryd.sizeOf304
  v75 := Tryd.zeroValue304
  i75 := by kernel_rfl
  t76 := Tryd.underlying305
  a76 := Tryd.isAgg305
  z76 := Tryd.sizeOf305
  v76 := Tryd.zeroValue305
  i76 := by kernel_rfl
  t77 := Tryd.underlying306
  a77 := Tryd.isAgg306
  z77 := Tryd.sizeOf306
  v77 := Tryd.zeroValue306
  i77 := by kernel_rfl
  t78 := Tryd.underlying307
  a78 := Tryd.isAgg307
  z78 := Tryd.sizeOf307
  v78 := Tryd.zeroValue307
  i78 := by kernel_rfl
  t79 := Tryd.underlying308
  a79 := Tryd.isAgg308
  z79 := Tryd.sizeOf308
  v79 := Tryd.zeroValue308
  i79 := by kernel_rfl
  t80 := Tryd.underlying309
  a80 := Tryd.isAgg309
  z80 := Tryd.sizeOf309
  v80 := Tryd.zeroValue309
  i80 := by kernel_rfl
  t82 := Tryd.underlying311
  a82 := Tryd.isAgg311
  z82 := Tryd.sizeOf311
  v82 := Tryd.zeroValue311
  i82 := by kernel_rfl
noncomputable def siT : TypeInfo := (Tryd.prog.info? 211).get (by kernel_rfl)
noncomputable def siE : TypeInfo := (Tryd.prog.info? 58).get (by kernel_rfl)
theorem siK (n : Nat) (h2 : 2 ≤ n) : Lib.swapperK n siE 10 = 6 := by
  have a : siE.hasPointers = false := by kernel_rfl
  have b : siE.bytes = 4 := by kernel_rfl
  have c : (n == 0) = false := by simp; omega
  have d : (n == 1) = false := by simp; omega
  simp [Lib.swapperK, a, b, c, d]
theorem siS (n : Nat) (h1 : n ≤ 1) : Lib.swapperK n siE 10 = n + 1 := by
  rcases Nat.eq_zero_or_pos n with h | h
  · subst h; simp [Lib.swapperK]
  · obtain rfl : n = 1 := by omega
    simp [Lib.swapperK]
theorem sortEnv : SortEnv Tryd.prog sRen 211 58 siT siE 10 where
  lays := sLays
  hi := by kernel_rfl
  hd := by kernel_rfl
  hpk := by kernel_rfl
  hie := by kernel_rfl
  hke := fun _ => by kernel_rfl
  hs1 := by kernel_rfl
  hagg := fun _ => by kernel_rfl
  tiny := fun n h1 => by
    rw [siS n h1]
    rcases Nat.eq_zero_or_pos n with h | h
    · subst h; exact ⟨256, by kernel_rfl⟩
    · obtain rfl : n = 1 := by omega
      exact ⟨257, by kernel_rfl⟩
  big := fun n h2 => ⟨261, true, by rw [siK n h2]; kernel_rfl, fun args W => run_callFunc_extern Tryd.func261 (by kernel_rfl) (by kernel_rfl) (by kernel_rfl) (e := Extern.ReflectliteSwapper.swap true) (by kernel_rfl) args W⟩
set_option maxHeartbeats 2000000 in
theorem less_u32 : LessU Tryd.prog 192 := by
  intro blk off c Bs size W G hs hc i j hi hj
  have ci := hc i hi
  have cj := hc j hj
  go_enter Tryd.func192, Tryd.ntmps192
  go_wp2
  go_quiet (fail)
  go_wp2
  go_ret
  exact ⟨rfl, nq, rfl⟩
theorem k_sort {bx : Nat} {ks : List Int} {a : Option Addr} {n cap U e' : Nat} {N : Chunk} {H : Fz} {L : Own} (hr : Row e' 1 a n cap (u32s ks) N) (h62 : n < 4611686018427387904) :
    Fn Tryd.prog 191 [.iface 211 (.slice a n cap), .func (.func 192) #[] [.pointer (some ⟨bx, 0, none⟩)].toArray] H (N :: [(bx, .cells [.slice a n cap].toArray U (0, 0))] :: L)
      (fun _ H' L' => H = H' ∧ ∃ N', L' = N' :: [(bx, .cells [.slice a n cap].toArray U (0, 0))] :: L ∧ Row e' 1 a n cap (u32s (srt ks)) N') :=
  sort_fn sortEnv Tryd.call191 Tryd.call192 less_u32 hr h62
end Go.Sx

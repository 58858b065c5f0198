import Derived.Test.YthgkgbaggjongaaGreatDoorProg
import Derived.Test.YthgkgbaggjongaaGreatDoorLibF
import Derived.Deep.QuietTactic
import Derived.Lib.RowBridge
import Derived.Lib.SortBridge
import Derived.WalkKit
import Derived.Laws.Externs
import Derived.KernelRfl
set_option linter.unusedVariables false
set_option linter.unusedSimpArgs false
namespace Go.Sx
open Go.Proofs Go.Shelf Go.Lib Go.Sort Go.RowKit
def sRen : Go.Shelf.Ren := ⟨fun | 6 => 225 | 10 => 298 | 11 => 299 | 12 => 300 | 13 => 301 | 14 => 302 | 24 => 319 | 25 => 330 | 26 => 331 | 27 => 332 | 28 => 333 | 29 => 334 | 30 => 335 | 31 => 336 | 32 => 337 | 33 => 338 | 34 => 346 | 35 => 347 | 36 => 348 | 37 => 349 | 38 => 350 | 39 => 352 | n => n, fun | 0 => 0 | 3 => 3 | 4 => 4 | 5 => 5 | 9 => 9 | 12 => 12 | 17 => 17 | 20 => 20 | 26 => 246 | 32 => 320 | 33 => 321 | 35 => 323 | 37 => 325 | 41 => 249 | 44 => 330 | 49 => 68 | 51 => 121 | 53 => 345 | 54 => 346 | 58 => 350 | 60 => 354 | 64 => 357 | 66 => 359 | 67 => 360 | 75 => 368 | 76 => 369 | 77 => 370 | 78 => 371 | 79 => 372 | 80 => 373 | 82 => 375 | n => n, fun | n => n⟩
theorem sLays : LaysGg.n6 Tryz.prog sRen where
 mixed := by kernel_rfl
 f6 := Tryz.func225.trans (congrArg some (by kernel_rfl))
 f10 := Tryz.func298.trans (congrArg some (by kernel_rfl))
 f11 := Tryz.func299.trans (congrArg some (by kernel_rfl))
 f12 := Tryz.func300.trans (congrArg some (by kernel_rfl))
 f13 := Tryz.func301.trans (congrArg some (by kernel_rfl))
 f14 := Tryz.func302.trans (congrArg some (by kernel_rfl))
 f24 := Tryz.func319.trans (congrArg some (by kernel_rfl))
 f25 := Tryz.func330.trans (congrArg some (by kernel_rfl))
 f26 := Tryz.func331.trans (congrArg some (by kernel_rfl))
 f27 := Tryz.func332.trans (congrArg some (by kernel_rfl))
 f28 := Tryz.func333.trans (congrArg some (by kernel_rfl))
 f29 := Tryz.func334.trans (congrArg some (by kernel_rfl))
 f30 := Tryz.func335.trans (congrArg some (by kernel_rfl))
 f31 := Tryz.func336.trans (congrArg some (by kernel_rfl))
 f32 := Tryz.func337.trans (congrArg some (by kernel_rfl))
 f33 := Tryz.func338.trans (congrArg some (by kernel_rfl))
 f34 := Tryz.func346.trans (congrArg some (by kernel_rfl))
 f35 := Tryz.func347.trans (congrArg some (by kernel_rfl))
 f36 := Tryz.func348.trans (congrArg some (by kernel_rfl))
 f37 := Tryz.func349.trans (congrArg some (by kernel_rfl))
 f38 := Tryz.func350.trans (congrArg some (by kernel_rfl))
 f39 := Tryz.func352.trans (congrArg some (by kernel_rfl))
 t0 := Tryz.underlying0
 a0 := Tryz.isAgg0
 z0 := Tryz.sizeOf0
 v0 := Tryz.zeroValue0
 i0 := by kernel_rfl
 t3 := Tryz.underlying3
 a3 := Tryz.isAgg3
 z3 := Tryz.sizeOf3
 v3 := Tryz.zeroValue3
 i3 := by kernel_rfl
 t4 := Tryz.underlying4
 a4 := Tryz.isAgg4
 z4 := Tryz.sizeOf4
 v4 := Tryz.zeroValue4
 i4 := by kernel_rfl
 t5 := Tryz.underlying5
 a5 := Tryz.isAgg5
 z5 := Tryz.sizeOf5
 v5 := Tryz.zeroValue5
 i5 := by kernel_rfl
 t9 := Tryz.underlying9
 a9 := Tryz.isAgg9
 z9 := Tryz.sizeOf9
 v9 := Tryz.zeroValue9
 i9 := by kernel_rfl
 t12 := Tryz.underlying12
 a12 := Tryz.isAgg12
 z12 := Tryz.sizeOf12
 v12 := Tryz.zeroValue12
 i12 := by kernel_rfl
 t17 := Tryz.underlying17
 a17 := Tryz.isAgg17
 z17 := Tryz.sizeOf17
 v17 := Tryz.zeroValue17
 i17 := by kernel_rfl
 t20 := Tryz.underlying20
 a20 := Tryz.isAgg20
 z20 := Tryz.sizeOf20
 v20 := Tryz.zeroValue20
 i20 := by kernel_rfl
 t26 := Tryz.underlying246
 a26 := Tryz.isAgg246
 z26 := Tryz.sizeOf246
 v26 := Tryz.zeroValue246
 i26 := by kernel_rfl
 t32 := Tryz.underlying320
 a32 := Tryz.isAgg320
 z32 := Tryz.sizeOf320
 v32 := Tryz.zeroValue320
 i32 := by kernel_rfl
 t33 := Tryz.underlying321
 a33 := Tryz.isAgg321
 z33 := Tryz.sizeOf321
 v33 := Tryz.zeroValue321
 i33 := by kernel_rfl
 t35 := Tryz.underlying323
 a35 := Tryz.isAgg323
 z35 := Tryz.sizeOf323
 v35 := Tryz.zeroValue323
 i35 := by kernel_rfl
 t37 := Tryz.underlying325
 a37 := Tryz.isAgg325
 z37 := Tryz.sizeOf325
 v37 := Tryz.zeroValue325
 i37 := by kernel_rfl
 t41 := Tryz.underlying249
 a41 := Tryz.isAgg249
 z41 := Tryz.sizeOf249
 v41 := Tryz.zeroValue249
 i41 := by kernel_rfl
 t44 := Tryz.underlying330
 a44 := Tryz.isAgg330
 z44 := Tryz.sizeOf330
 v44 := Tryz.zeroValue330
 i44 := by kernel_rfl
 t49 := Tryz.underlying68
 a49 := Tryz.isAgg68
 z49 := Tryz.sizeOf68
 v49 := Tryz.zeroValue68
 i49 := by kernel_rfl
 t51 := Tryz.underlying121
 a51 := Tryz.isAgg121
 z51 := Tryz.sizeOf121
 v51 := Tryz.zeroValue121
 i51 := by kernel_rfl
 t53 := Tryz.underlying345
 a53 := Tryz.isAgg345
 z53 := Tryz.sizeOf345
 v53 := Tryz.zeroValue345
 i53 := by kernel_rfl
 t54 := Tryz.underlying346
 a54 := Tryz.isAgg346
 z54 := Tryz.sizeOf346
 v54 := Tryz.zeroValue346
 i54 := by kernel_rfl
 t58 := Tryz.underlying350
 a58 := Tryz.isAgg350
 z58 := Tryz.sizeOf350
 v58 := Tryz.zeroValue350
 i58 := by kernel_rfl
 t60 := Tryz.underlying354
 a60 := Tryz.isAgg354
 z60 := Tryz.sizeOf354
 v60 := Tryz.zeroValue354
 i60 := by kernel_rfl
 t64 := Tryz.underlying357
 a64 := Tryz.isAgg357
 z64 := Tryz.sizeOf357
 v64 := Tryz.zeroValue357
 i64 := by kernel_rfl
 t66 := Tryz.underlying359
 a66 := Tryz.isAgg359
 z66 := Tryz.sizeOf359
 v66 := Tryz.zeroValue359
 i66 := by kernel_rfl
 t67 := Tryz.underlying360
 a67 := Tryz.isAgg360
 z67 := Tryz.sizeOf360
 v67 := Tryz.zeroValue360
 i67 := by kernel_rfl
 t75 := Tryz.underlying368
 a75 := Tryz.isAgg368
 z75 := Tryz.sizeOf368
 v75 := Tryz.zeroValue368
 i75 := by kernel_rfl
 t76 := Tryz.underlying369
 a76 := Tryz.isAgg369
 z76 := Tryz.sizeOf369
 v76 := Tryz.zeroValue369
 i76 := by kernel_rfl
 t77 := Tryz.underlying370
 a77 := Tryz.isAgg370
 z77 := Tryz.sizeOf370
 v77 := Tryz.zeroValue370
 i77 := by kernel_rfl
 t78 := Tryz.underlying371
 a78 := Tryz.isAgg371
 z78 := Tryz.sizeOf371
 v78 := Tryz.zeroValue371
 i78 := by kernel_rfl
 t79 := Tryz.underlying372
 a79 := Tryz.isAgg372
 z79 := Tryz.sizeOf372
 v79 := Tryz.zeroValue372
 i79 := by kernel_rfl
 t80 := Tryz.underlying373
 a80 := Tryz.isAgg373
 z80 := Tryz.sizeOf373
 v80 := Tryz.zeroValue373
 i80 := by kernel_rfl
 t82 := Tryz.underlying375
 a82 := Tryz.isAgg375
 z82 := Tryz.sizeOf375
 v82 := Tryz.zeroValue375
 i82 := by kernel_rfl
noncomputable def siT : TypeInfo := (Tryz.prog.info? 244).get (by kernel_rfl)
noncomputable def siE : TypeInfo := (Tryz.prog.info? 68).get (by kernel_rfl)
theorem siK (n : Nat) (h2 : 2 ≤ n) : Lib.swapperK n siE 10 = 6 := by
 have a : siE.hasPointers = false := by kernel_rfl
 have b : siE.bytes = 4 := by kernel_rfl
 have c : (n == 0) = false := by simp; omega
 have d : (n == 1) = false := by simp; omega
 simp [Lib.swapperK, a, b, c, d]
theorem siS (n : Nat) (h1 : n ≤ 1) : Lib.swapperK n siE 10 = n + 1 := by
 rcases Nat.eq_zero_or_pos n with h | h
 · subst h; simp [Lib.swapperK]
 ·
  obtain rfl : n = 1 := by omega
  simp [Lib.swapperK]
theorem sortEnv : SortEnv Tryz.prog sRen 244 68 siT siE 10 where
 lays := sLays
 hi := by kernel_rfl
 hd := by kernel_rfl
 hpk := by kernel_rfl
 hie := by kernel_rfl
 hke := fun _ => by kernel_rfl
 hs1 := by kernel_rfl
 hagg := fun _ => by kernel_rfl
 tiny := fun n h1 => by
  rw [siS n h1]
  rcases Nat.eq_zero_or_pos n with h | h
  · subst h; exact ⟨321, by kernel_rfl⟩
  ·
   obtain rfl : n = 1 := by omega
   exact ⟨322, by kernel_rfl⟩
 big := fun n h2 => ⟨326, true, by rw [siK n h2]; kernel_rfl, fun args W => run_callFunc_extern Tryz.func326 (by kernel_rfl) (by kernel_rfl) (by kernel_rfl) (e := Extern.ReflectliteSwapper.swap true) (by kernel_rfl) args W⟩
set_option maxHeartbeats 2000000 in
theorem less_u32 : LessU Tryz.prog 226 := by
 intro blk off c Bs size W G hs hc i j hi hj
 have ci := hc i hi
 have cj := hc j hj
 go_enter Tryz.func226, Tryz.ntmps226
 go_wp2
 go_quiet (fail)
 go_wp2
 go_ret
 exact ⟨rfl, nq, rfl⟩
theorem k_sort {bx : Nat} {ks : List Int} {a : Option Addr} {n cap U e' : Nat} {N : Chunk} {H : Fz} {L : Own} (hr : Row e' 1 a n cap (u32s ks) N) (h62 : n < 4611686018427387904) :
  Fn Tryz.prog 225 [.iface 244 (.slice a n cap), .func (.func 226) #[] [.pointer (some ⟨bx, 0, none⟩)].toArray] H (N :: [(bx, .cells [.slice a n cap].toArray U (0, 0))] :: L)
   (fun _ H' L' => H = H' ∧ ∃ N', L' = N' :: [(bx, .cells [.slice a n cap].toArray U (0, 0))] :: L ∧ Row e' 1 a n cap (u32s (srt ks)) N') :=
 sort_fn sortEnv Tryz.call225 Tryz.call226 less_u32 hr h62
end Go.Sx

import Derived.Test.YtahmkeoedpghjabGreatProg
import Derived.Test.YtahmkeoedpghjabGreatSortL
import Derived.Deep.QuietTactic
import Derived.Lib.RowBridge
import Derived.Lib.SortBridge
import Derived.WalkKit
import Derived.Laws.Externs
import Derived.KernelRfl
set_option linter.unusedVariables false
set_option linter.unusedSimpArgs false
namespace Go.Sx
open Go.Proofs Go.Shelf Go.Lib Go.Sort Go.RowKit
def sRen : Go.Shelf.Ren := ⟨fun | 6 => 144 | 10 => 152 | 11 => 153 | 12 => 154 | 13 => 155 | 14 => 156 | 24 => 143 | 25 => 166 | 26 => 167 | 27 => 168 | 28 => 169 | 29 => 170 | 30 => 171 | 31 => 172 | 32 => 173 | 33 => 174 | 34 => 175 | 35 => 176 | 36 => 177 | 37 => 178 | 38 => 179 | 39 => 180 | n => n, fun | 0 => 0 | 3 => 3 | 4 => 4 | 5 => 5 | 9 => 9 | 12 => 12 | 17 => 17 | 20 => 20 | 26 => 223 | 32 => 231 | 33 => 232 | 35 => 234 | 37 => 236 | 41 => 205 | 44 => 241 | 49 => 62 | 51 => 133 | 53 => 247 | 54 => 248 | 58 => 252 | 60 => 254 | 64 => 258 | 66 => 260 | 67 => 261 | 75 => 269 | 76 => 270 | 77 => 271 | 78 => 272 | 79 => 273 | 80 => 274 | 82 => 276 | n => n, fun | n => n⟩
theorem sLays : LaysGg.n6 Tryz.prog sRen where
  mixed := by kernel_rfl
  f6 := Tryz.func144.trans (congrArg some (by kernel_rfl))
  f10 := Tryz.func152.trans (congrArg some (by kernel_rfl))
  f11 := Tryz.func153.trans (congrArg some (by kernel_rfl))
  f12 := Tryz.func154.trans (congrArg some (by kernel_rfl))
  f13 := Tryz.func155.trans (congrArg some (by kernel_rfl))
  f14 := Tryz.func156.trans (congrArg some (by kernel_rfl))
  f24 := Tryz.func143.trans (congrArg some (by kernel_rfl))
  f25 := Tryz.func166.trans (congrArg some (by kernel_rfl))
  f26 := Tryz.func167.trans (congrArg some (by kernel_rfl))
  f27 := Tryz.func168.trans (congrArg some (by kernel_rfl))
  f28 := Tryz.func169.trans (congrArg some (by kernel_rfl))
  f29 := Tryz.func170.trans (congrArg some (by kernel_rfl))
  f30 := Tryz.func171.trans (congrArg some (by kernel_rfl))
  f31 := Tryz.func172.trans (congrArg some (by kernel_rfl))
  f32 := Tryz.func173.trans (congrArg some (by kernel_rfl))
  f33 := Tryz.func174.trans (congrArg some (by kernel_rfl))
  f34 := Tryz.func175.trans (congrArg some (by kernel_rfl))
  f35 := Tryz.func176.trans (congrArg some (by kernel_rfl))
  f36 := Tryz.func177.trans (congrArg some (by kernel_rfl))
  f37 := Tryz.func178.trans (congrArg some (by kernel_rfl))
  f38 := Tryz.func179.trans (congrArg some (by kernel_rfl))
  f39 := Tryz.func180.trans (congrArg some (by kernel_rfl))
  t0 := Tryz.underlying0
  a0 := Tryz.isAgg0
  z0 := Tryz.sizeOf0
  v0 := Tryz.zeroValue0
  i0 := by kernel_rfl
  t3 := Tryz.underlying3
  a3 := Tryz.isAgg3
  z3 := Tryz.sizeOf3
  v3 := Tryz.zeroValue3
  i3 := by kernel_rfl
  t4 := Tryz.underlying4
  a4 := Tryz.isAgg4
  z4 := Tryz.sizeOf4
  v4 := Tryz.zeroValue4
  i4 := by kernel_rfl
  t5 := Tryz.underlying5
  a5 := Tryz.isAgg5
  z5 := Tryz.sizeOf5
  v5 := Tryz.zeroValue5
  i5 := by kernel_rfl
  t9 := Tryz.underlying9
  a9 := Tryz.isAgg9
  z9 := Tryz.sizeOf9
  v9 := Tryz.zeroValue9
  i9 := by kernel_rfl
  t12 := Tryz.underlying12
  a12 := Tryz.isAgg12
  z12 := Tryz.sizeOf12
  v12 := Tryz.zeroValue12
  i12 := by kernel_rfl
  t17 := Tryz.underlying17
  a17 := Tryz.isAgg17
  z17 := Tryz.sizeOf17
  v17 := Tryz.zeroValue17
  i17 := by kernel_rfl
  t20 := Tryz.underlying20
  a20 := Tryz.isAgg20
  z20 := Tryz.sizeOf20
  v20 := Tryz.zeroValue20
  i20 := by kernel_rfl
  t26 := Tryz.underlying223
  a26 := Tryz.isAgg223
  z26 := Tryz.sizeOf223
  v26 := Tryz.zeroValue223
  i26 := by kernel_rfl
  t32 := Tryz.underlying231
  a32 := Tryz.isAgg231
  z32 := Tryz.sizeOf231
  v32 := Tryz.zeroValue231
  i32 := by kernel_rfl
  t33 := Tryz.underlying232
  a33 := Tryz.isAgg232
  z33 := Tryz.sizeOf232
  v33 := Tryz.zeroValue232
  i33 := by kernel_rfl
  t35 := Tryz.underlying234
  a35 := Tryz.isAgg234
  z35 := Tryz.sizeOf234
  v35 := Tryz.zeroValue234
  i35 := by kernel_rfl
  t37 := Tryz.underlying236
  a37 := Tryz.isAgg236
  z37 := Tryz.sizeOf236
  v37 := Tryz.zeroValue236
  i37 := by kernel_rfl
  t41 := Tryz.underlying205
  a41 := Tryz.isAgg205
  z41 := Tryz.sizeOf205
  v41 := Tryz.zeroValue205
  i41 := by kernel_rfl
  t44 := Tryz.underlying241
  a44 := Tryz.isAgg241
  z44 := Tryz.sizeOf241
  v44 := Tryz.zeroValue241
  i44 := by kernel_rfl
  t49 := Tryz.underlying62
  a49 := Tryz.isAgg62
  z49 := Tryz.sizeOf62
  v49 := Tryz.zeroValue62
  i49 := by kernel_rfl
  t51 := Tryz.underlying133
  a51 := Tryz.isAgg133
  z51 := Tryz.sizeOf133
  v51 := Tryz.zeroValue133
  i51 := by kernel_rfl
  t53 := Tryz.underlying247
  a53 := Tryz.isAgg247
  z53 := Tryz.sizeOf247
  v53 := Tryz.zeroValue247
  i53 := by kernel_rfl
  t54 := Tryz.underlying248
  a54 := Tryz.isAgg248
  z54 := Tryz.sizeOf248
  v54 := Tryz.zeroValue248
  i54 := by kernel_rfl
  t58 := Tryz.underlying252
  a58 := Tryz.isAgg252
  z58 := Tryz.sizeOf252
  v58 := Tryz.zeroValue252
  i58 := by kernel_rfl
  t60 := Tryz.underlying254
  a60 := Tryz.isAgg254
  z60 := Tryz.sizeOf254
  v60 := Tryz.zeroValue254
  i60 := by kernel_rfl
  t64 := Tryz.underlying258
  a64 := Tryz.isAgg258
  z64 := Tryz.sizeOf258
  v64 := Tryz.zeroValue258
  i64 := by kernel_rfl
  t66 := Tryz.underlying260
  a66 := Tryz.isAgg260
  z66 := Tryz.sizeOf260
  v66 := Tryz.zeroValue260
  i66 := by kernel_rfl
  t67 := Tryz.underlying261
  a67 := Tryz.isAgg261
  z67 := Tryz.sizeOf261
  v67 := Tryz.zeroValue261
  i67 := by kernel_rfl
  t75 := Tryz.underlying269
  a75 := Tryz.isAgg269
  z75 := Tryz.sizeOf269
  v75 := Tryz.zeroValue269
  i75 := by kernel_rfl
  t76 := Tryz.underlying270
  a76 := Tryz.isAgg270
  z76 := Tryz.sizeOf270
  v76 := Tryz.zeroValue270
  i76 := by kernel_rfl
  t77 := Tryz.underlying271
  a77 := Tryz.isAgg271
  z77 := Tryz.sizeOf271
  v77 := Tryz.zeroValue271
  i77 := by kernel_rfl
  t78 := Tryz.underlying272
  a78 := Tryz.isAgg272
  z78 := Tryz.sizeOf272
  v78 := Tryz.zeroValue272
  i78 := by kernel_rfl
  t79 := Tryz.underlying273
  a79 := Tryz.isAgg273
  z79 := Tryz.sizeOf273
  v79 := Tryz.zeroValue273
  i79 := by kernel_rfl
  t80 := Tryz.underlying274
  a80 := Tryz.isAgg274
  z80 := Tryz.sizeOf274
  v80 := Tryz.zeroValue274
  i80 := by kernel_rfl
  t82 := Tryz.underlying276
  a82 := Tryz.isAgg276
  z82 := Tryz.sizeOf276
  v82 := Tryz.zeroValue276
  i82 := by kernel_rfl
noncomputable def siT : TypeInfo := (Tryz.prog.info? 190).get (by kernel_rfl)
noncomputable def siE : TypeInfo := (Tryz.prog.info? 62).get (by kernel_rfl)
theorem siK (n : Nat) (h2 : 2 ≤ n) : Lib.swapperK n siE 10 = 6 := by
  have a : siE.hasPointers = false := by kernel_rfl
  have b : siE.bytes = 4 := by kernel_rfl
  have c : (n == 0) = false := by simp; omega
  have d : (n == 1) = false := by simp; omega
  simp [Lib.swapperK, a, b, c, d]
theorem siS (n : Nat) (h1 : n ≤ 1) : Lib.swapperK n siE 10 = n + 1 := by
  rcases Nat.eq_zero_or_pos n with h | h
  · subst h; simp [Lib.swapperK]
  · obtain rfl : n = 1 := by omega
    simp [Lib.swapperK]
theorem sortEnv : SortEnv Tryz.prog sRen 190 62 siT siE 10 where
  lays := sLays
  hi := by kernel_rfl
  hd := by kernel_rfl
  hpk := by kernel_rfl
  hie := by kernel_rfl
  hke := fun _ => by kernel_rfl
  hs1 := by kernel_rfl
  hagg := fun _ => by kernel_rfl
  tiny := fun n h1 => by
    rw [siS n h1]
    rcases Nat.eq_zero_or_pos n with h | h
    · subst h; exact ⟨157, by kernel_rfl⟩
    · obtain rfl : n = 1 := by omega
      exact ⟨158, by kernel_rfl⟩
  big := fun n h2 => ⟨162, true, by rw [siK n h2]; kernel_rfl, fun args W => run_callFunc_extern Tryz.func162 (by kernel_rfl) (by kernel_rfl) (by kernel_rfl) (e := Extern.ReflectliteSwapper.swap true) (by kernel_rfl) args W⟩
set_option maxHeartbeats 2000000 in
theorem less_u32 : LessU Tryz.prog 145 := by
  intro blk off c Bs size W G hs hc i j hi hj
  have ci := hc i hi
  have cj := hc j hj
  go_enter Tryz.func145, Tryz.ntmps145
  go_wp2
  go_quiet (fail)
  go_wp2
  go_ret
  exact ⟨rfl, nq, rfl⟩
theorem k_sort {bx : Nat} {ks : List Int} {a : Option Addr} {n cap U e' : Nat} {N : Chunk} {H : Fz} {L : Own} (hr : Row e' 1 a n cap (u32s ks) N) (h62 : n < 4611686018427387904) :
    Fn Tryz.prog 144 [.iface 190 (.slice a n cap), .func (.func 145) #[] [.pointer (some ⟨bx, 0, none⟩)].toArray] H (N :: [(bx, .cells [.slice a n cap].toArray U (0, 0))] :: L)
      (fun _ H' L' => H = H' ∧ ∃ N', L' = N' :: [(bx, .cells [.slice a n cap].toArray U (0, 0))] :: L ∧ Row e' 1 a n cap (u32s (srt ks)) N') :=
  sort_fn sortEnv Tryz.call144 Tryz.call145 less_u32 hr h62
end Go.Sx

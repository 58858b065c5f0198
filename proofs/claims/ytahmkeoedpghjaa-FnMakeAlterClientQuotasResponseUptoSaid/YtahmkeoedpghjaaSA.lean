import Derived.Test.YtahmkeoedpghjaaProg
import Derived.Test.YtahmkeoedpghjaaSortL
import Derived.Deep.QuietTactic
import Derived.Lib.RowBridge
import Derived.Lib.SortBridge
import Derived.WalkKit
import Derived.Laws.Externs
import Derived.KernelRfl
set_option linter.unusedVariables false
set_option linter.unusedSimpArgs false
namespace Go.Sx
open Go.Proofs Go.Shelf Go.Lib Go.Sort Go.RowKit
def sRen : Go.Shelf.Ren := ⟨fun | 6 => 185 | 10 => 188 | 11 => 189 | 12 => 190 | 13 => 191 | 14 => 192 | 24 => 184 | 25 => 202 | 26 => 203 | 27 => 204 | 28 => 205 | 29 => 206 | 30 => 207 | 31 => 208 | 32 => 209 | 33 => 210 | 34 => 211 | 35 => 212 | 36 => 213 | 37 => 214 | 38 => 215 | 39 => 216 | n => n, fun | 0 => 0 | 3 => 3 | 4 => 4 | 5 => 5 | 9 => 9 | 12 => 12 | 17 => 17 | 20 => 20 | 26 => 213 | 32 => 215 | 33 => 216 | 35 => 218 | 37 => 220 | 41 => 200 | 44 => 225 | 49 => 60 | 51 => 142 | 53 => 231 | 54 => 232 | 58 => 236 | 60 => 238 | 64 => 242 | 66 => 244 | 67 => 245 | 75 => 253 | 76 => 254 | 77 => 255 | 78 => 256 | 79 => 257 | 80 => 258 | 82 => 260 | n => n, fun | n => n⟩
theorem sLays : LaysGg.n6 Try.prog sRen where
  mixed := by kernel_rfl
  f6 := Try.func185.trans (congrArg some (by kernel_rfl))
  f10 := Try.func188.trans (congrArg some (by kernel_rfl))
  f11 := Try.func189.trans (congrArg some (by kernel_rfl))
  f12 := Try.func190.trans (congrArg some (by kernel_rfl))
  f13 := Try.func191.trans (congrArg some (by kernel_rfl))
  f14 := Try.func192.trans (congrArg some (by kernel_rfl))
  f24 := Try.func184.trans (congrArg some (by kernel_rfl))
  f25 := Try.func202.trans (congrArg some (by kernel_rfl))
  f26 := Try.func203.trans (congrArg some (by kernel_rfl))
  f27 := Try.func204.trans (congrArg some (by kernel_rfl))
  f28 := Try.func205.trans (congrArg some (by kernel_rfl))
  f29 := Try.func206.trans (congrArg some (by kernel_rfl))
  f30 := Try.func207.trans (congrArg some (by kernel_rfl))
  f31 := Try.func208.trans (congrArg some (by kernel_rfl))
  f32 := Try.func209.trans (congrArg some (by kernel_rfl))
  f33 := Try.func210.trans (congrArg some (by kernel_rfl))
  f34 := Try.func211.trans (congrArg some (by kernel_rfl))
  f35 := Try.func212.trans (congrArg some (by kernel_rfl))
  f36 := Try.func213.trans (congrArg some (by kernel_rfl))
  f37 := Try.func214.trans (congrArg some (by kernel_rfl))
  f38 := Try.func215.trans (congrArg some (by kernel_rfl))
  f39 := Try.func216.trans (congrArg some (by kernel_rfl))
  t0 := Try.underlying0
  a0 := Try.isAgg0
  z0 := Try.sizeOf0
  v0 := Try.zeroValue0
  i0 := by kernel_rfl
  t3 := Try.underlying3
  a3 := Try.isAgg3
  z3 := Try.sizeOf3
  v3 := Try.zeroValue3
  i3 := by kernel_rfl
  t4 := Try.underlying4
  a4 := Try.isAgg4
  z4 := Try.sizeOf4
  v4 := Try.zeroValue4
  i4 := by kernel_rfl
  t5 := Try.underlying5
  a5 := Try.isAgg5
  z5 := Try.sizeOf5
  v5 := Try.zeroValue5
  i5 := by kernel_rfl
  t9 := Try.underlying9
  a9 := Try.isAgg9
  z9 := Try.sizeOf9
  v9 := Try.zeroValue9
  i9 := by kernel_rfl
  t12 := Try.underlying12
  a12 := Try.isAgg12
  z12 := Try.sizeOf12
  v12 := Try.zeroValue12
  i12 := by kernel_rfl
  t17 := Try.underlying17
  a17 := Try.isAgg17
  z17 := Try.sizeOf17
  v17 := Try.zeroValue17
  i17 := by kernel_rfl
  t20 := Try.underlying20
  a20 := Try.isAgg20
  z20 := Try.sizeOf20
  v20 := Try.zeroValue20
  i20 := by kernel_rfl
  t26 := Try.underlying213
  a26 := Try.isAgg213
  z26 := Try.sizeOf213
  v26 := Try.zeroValue213
  i26 := by kernel_rfl
  t32 := Try.underlying215
  a32 := Try.isAgg215
  z32 := Try.sizeOf215
  v32 := Try.zeroValue215
  i32 := by kernel_rfl
  t33 := Try.underlying216
  a33 := Try.isAgg216
  z33 := Try.sizeOf216
  v33 := Try.zeroValue216
  i33 := by kernel_rfl
  t35 := Try.underlying218
  a35 := Try.isAgg218
  z35 := Try.sizeOf218
  v35 := Try.zeroValue218
  i35 := by kernel_rfl
  t37 := Try.underlying220
  a37 := Try.isAgg220
  z37 := Try.sizeOf220
  v37 := Try.zeroValue220
  i37 := by kernel_rfl
  t41 := Try.underlying200
  a41 := Try.isAgg200
  z41 := Try.sizeOf200
  v41 := Try.zeroValue200
  i41 := by kernel_rfl
  t44 := Try.underlying225
  a44 := Try.isAgg225
  z44 := Try.sizeOf225
  v44 := Try.zeroValue225
  i44 := by kernel_rfl
  t49 := Try.underlying60
  a49 := Try.isAgg60
  z49 := Try.sizeOf60
  v49 := Try.zeroValue60
  i49 := by kernel_rfl
  t51 := Try.underlying142
  a51 := Try.isAgg142
  z51 := Try.sizeOf142
  v51 := Try.zeroValue142
  i51 := by kernel_rfl
  t53 := Try.underlying231
  a53 := Try.isAgg231
  z53 := Try.sizeOf231
  v53 := Try.zeroValue231
  i53 := by kernel_rfl
  t54 := Try.underlying232
  a54 := Try.isAgg232
  z54 := Try.sizeOf232
  v54 := Try.zeroValue232
  i54 := by kernel_rfl
  t58 := Try.underlying236
  a58 := Try.isAgg236
  z58 := Try.sizeOf236
  v58 := Try.zeroValue236
  i58 := by kernel_rfl
  t60 := Try.underlying238
  a60 := Try.isAgg238
  z60 := Try.sizeOf238
  v60 := Try.zeroValue238
  i60 := by kernel_rfl
  t64 := Try.underlying242
  a64 := Try.isAgg242
  z64 := Try.sizeOf242
  v64 := Try.zeroValue242
  i64 := by kernel_rfl
  t66 := Try.underlying244
  a66 := Try.isAgg244
  z66 := Try.sizeOf244
  v66 := Try.zeroValue244
  i66 := by kernel_rfl
  t67 := Try.underlying245
  a67 := Try.isAgg245
  z67 := Try.sizeOf245
  v67 := Try.zeroValue245
  i67 := by kernel_rfl
  t75 := Try.underlying253
  a75 := Try.isAgg253
  z75 := Try.sizeOf253
  v75 := Try.zeroValue253
  i75 := by kernel_rfl
  t76 := Try.underlying254
  a76 := Try.isAgg254
  z76 := Try.sizeOf254
  v76 := Try.zeroValue254
  i76 := by kernel_rfl
  t77 := Try.underlying255
  a77 := Try.isAgg255
  z77 := Try.sizeOf255
  v77 := Try.zeroValue255
  i77 := by kernel_rfl
  t78 := Try.underlying256
  a78 := Try.isAgg256
  z78 := Try.sizeOf256
  v78 := Try.zeroValue256
  i78 := by kernel_rfl
  t79 := Try.underlying257
  a79 := Try.isAgg257
  z79 := Try.sizeOf257
  v79 := Try.zeroValue257
  i79 := by kernel_rfl
  t80 := Try.underlying258
  a80 := Try.isAgg258
  z80 := Try.sizeOf258
  v80 := Try.zeroValue258
  i80 := by kernel_rfl
  t82 := Try.underlying260
  a82 := Try.isAgg260
  z82 := Try.sizeOf260
  v82 := Try.zeroValue260
  i82 := by kernel_rfl
noncomputable def siT : TypeInfo := (Try.prog.info? 211).get (by kernel_rfl)
noncomputable def siE : TypeInfo := (Try.prog.info? 60).get (by kernel_rfl)
theorem siK (n : Nat) (h2 : 2 ≤ n) : Lib.swapperK n siE 10 = 6 := by
  have a : siE.hasPointers = false := by kernel_rfl
  have b : siE.bytes = 4 := by kernel_rfl
  have c : (n == 0) = false := by simp; omega
  have d : (n == 1) = false := by simp; omega
  simp [Lib.swapperK, a, b, c, d]
theorem siS (n : Nat) (h1 : n ≤ 1) : Lib.swapperK n siE 10 = n + 1 := by
  rcases Nat.eq_zero_or_pos n with h | h
  · subst h; simp [Lib.swapperK]
  · obtain rfl : n = 1 := by omega
    simp [Lib.swapperK]
theorem sortEnv : SortEnv Try.prog sRen 211 60 siT siE 10 where
  lays := sLays
  hi := by kernel_rfl
  hd := by kernel_rfl
  hpk := by kernel_rfl
  hie := by kernel_rfl
  hke := fun _ => by kernel_rfl
  hs1 := by kernel_rfl
  hagg := fun _ => by kernel_rfl
  tiny := fun n h1 => by
    rw [siS n h1]
    rcases Nat.eq_zero_or_pos n with h | h
    · subst h; exact ⟨193, by kernel_rfl⟩
    · obtain rfl : n = 1 := by omega
      exact ⟨194, by kernel_rfl⟩
  big := fun n h2 => ⟨198, true, by rw [siK n h2]; kernel_rfl, fun args W => run_callFunc_extern Try.func198 (by kernel_rfl) (by kernel_rfl) (by kernel_rfl) (e := Extern.ReflectliteSwapper.swap true) (by kernel_rfl) args W⟩
set_option maxHeartbeats 2000000 in
theorem less_u32 : LessU Try.prog 186 := by
  intro blk off c Bs size W G hs hc i j hi hj
  have ci := hc i hi
  have cj := hc j hj
  go_enter Try.func186, Try.ntmps186
  go_wp2
  go_quiet (fail)
  go_wp2
  go_ret
  exact ⟨rfl, nq, rfl⟩
theorem k_sort {bx : Nat} {ks : List Int} {a : Option Addr} {n cap U e' : Nat} {N : Chunk} {H : Fz} {L : Own} (hr : Row e' 1 a n cap (u32s ks) N) (h62 : n < 4611686018427387904) :
    Fn Try.prog 185 [.iface 211 (.slice a n cap), .func (.func 186) #[] [.pointer (some ⟨bx, 0, none⟩)].toArray] H (N :: [(bx, .cells [.slice a n cap].toArray U (0, 0))] :: L)
      (fun _ H' L' => H = H' ∧ ∃ N', L' = N' :: [(bx, .cells [.slice a n cap].toArray U (0, 0))] :: L ∧ Row e' 1 a n cap (u32s (srt ks)) N') :=
  sort_fn sortEnv Try.call185 Try.call186 less_u32 hr h62
end Go.Sx

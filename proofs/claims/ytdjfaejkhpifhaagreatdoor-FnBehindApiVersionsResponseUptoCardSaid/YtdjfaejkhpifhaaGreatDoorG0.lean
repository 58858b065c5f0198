/- The variable that is laid: what the list gives, a world that holds it. -/
import Derived.Test.YtdjfaejkhpifhaaGreatDoorLibE
import Derived.Test.YtdjfaejkhpifhaaGreatDoorF0
import Derived.Test.YtdjfaejkhpifhaaGreatDoorRows
import Derived.Test.YtdjfaejkhpifhaaGreatDoorCards
import Derived.Test.YtdjfaejkhpifhaaGreatDoorTie
import Derived.Stop.LaidErr
import Derived.Stop.ErrReads
import Derived.Deep.DeepHandedRow
import Derived.Deep.DeepWitnessRowRef
import Derived.KernelRfl
set_option linter.unusedVariables false
set_option linter.unusedSimpArgs false
set_option maxRecDepth 100000
set_option maxHeartbeats 20000000
namespace Go.Sx
open Go.Proofs Go.Proofs.YtdjfaejkhpifhaaGreatDoor Go.ChangeShapes Go.WideShapes Go.ChangeAt Go.RowKit
theorem gE : Tryz.prog.globalNamed "pub-mailsack/pub/kmsg/inner/kbin.ErrNotEnoughData" = some 1 := by kernel_rfl
theorem gEType : (Tryz.prog.globals[1]?).map (·.type) = some 50 := by kernel_rfl
theorem cellsE : Tryz.prog.cellsOf 193 = 1 := by kernel_rfl
theorem cellsS : Tryz.prog.cellsOf 9 = 1 := by kernel_rfl
theorem starE : "*" ++ "errors.errorString" = "*errors.errorString" := by decide
theorem rowE (u : TypeId) (h : Tryz.prog.typeName? 3 u = some "*errors.errorString") : u = 175 :=
 typeName_ptr_named (nm := "errors.errorString") (by rw [starE]; kernel_rfl) (by kernel_rfl) (by decide) u (by rw [starE]; exact h)
abbrev listE : List (String × DataW Unit) := [("pub-mailsack/pub/kmsg/inner/kbin.ErrNotEnoughData", Rows.laid_pub_mailsack_pub_kmsg_inner_kbin_ErrNotEnoughData)]
theorem laidE {W : World} (h : laidMetH Tryz.prog listE W) : ∃ ev, (fzOf W).at 1 0 [.iface 175 ev] := by
 obtain ⟨a, s, h1, _, _, _⟩ := laid_sentinel (r := []) (show laidMet Tryz.prog listE W from h) gE gEType Tryz.underlying50 rowE Tryz.underlying175 Tryz.underlying193 rfl rfl Tryz.underlying9 cellsE cellsS
 refine ⟨.pointer (some a), ?_⟩
 unfold World.var? at h1
 rw [gE] at h1
 simp only [Option.bind_some] at h1
 split at h1
 ·
  rename_i c t fr hb
  cases h1
  exact ⟨_, _, _, hb, fun j v hj => by cases j with
   | zero => simpa using hj
   | succ j => simp at hj⟩
 · cases h1
abbrev errS : ByteArray := { data := #[114, 101, 115, 112, 111, 110, 115, 101, 32, 100, 105, 100, 32, 110, 111, 116, 32, 99, 111, 110, 116, 97, 105, 110, 32, 101, 110, 111, 117, 103, 104, 32, 100, 97, 116, 97, 32, 116, 111, 32, 98, 101, 32, 118, 97, 108, 105, 100] }
noncomputable def low : Nat := (World.holding Tryz.prog default ⟨#[], #[], []⟩).heap.size
noncomputable def laidWorld (os : Os) : World :=
 let w0 := World.holding Tryz.prog os ⟨#[.cells #[.string errS] 193], #[], []⟩
 { w0 with heap := w0.heap.modify 1 fun
   | .cells _ t frozen => .cells #[.iface 175 (.pointer (some ⟨low, 0, none⟩))] t frozen
   | o => o }
theorem laid_met (os : Os) (args : Array Value) : laidMet Tryz.prog listE ((laidWorld os).forCall (fun _ _ => 0) ⟨#[], args, []⟩).memory :=
 laidMet_of_run (ps := [.cell 1 0, .cell low 0]) 8 (by kernel_rfl) (by kernel_rfl) (by kernel_rfl)
theorem q_main : Tryz.pinned.checked.prog.mainIs = some (true, "dcba7b3d822698b88d7d8fa2af4d07c9108acd1db90c202ecc560831d869845d".toList) := by kernel_rfl
theorem q_looks : false = Tryz.pinned.checked.prog.looks [] := by kernel_rfl
theorem own : ownKnob Tryz.prog.godebug = none := by kernel_rfl
end Go.Sx

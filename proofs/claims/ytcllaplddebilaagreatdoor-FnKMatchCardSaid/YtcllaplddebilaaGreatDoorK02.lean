/- laws.FnKMatch: a part of the proof: Wits. -/
import Derived.Test.YtcllaplddebilaaGreatDoorK01
set_option maxRecDepth 1000000
set_option maxHeartbeats 64000000
set_option linter.unusedVariables false
set_option linter.unusedSimpArgs false
namespace Go.Proofs.YtcllaplddebilaaGreatDoor
open Go.RowKit Go.Sort
attribute [local go_sem] cell?_grow frozen?_grow cell?_redrawn frozen?_redrawn size_redrawn size_grow ba_get ba_extract
attribute [local simp] size_redrawn
open Go.Lib
theorem kShaped1 (os : Os) : ((kWorld os).forCall (fun _ _ => 0) ⟨#[], kArgs, []⟩).variablesZipB Tryz.prog = true := by kernel_rfl
theorem kShaped2 (os : Os) : (((kWorld os).forCall (fun _ _ => 0) ⟨#[], kArgs, []⟩).heap.toList.drop Tryz.prog.globals.size).take ((begin Tryz.prog (fun _ _ => 0) default).world.heap.size - Tryz.prog.globals.size) = (begin Tryz.prog (fun _ _ => 0) default).world.heap.toList.drop Tryz.prog.globals.size := by kernel_rfl
theorem kOk (os : Os) : Input.okWideB Tryz.checked.prog ((kWorld os).forCall (fun _ _ => 0) ⟨#[], kArgs, []⟩) 4 ⟨#[], kArgs, []⟩ = true := by kernel_rfl
theorem kPre {H : Type} (enc : TypeId × Value → H) (os : Os) : Rows.fnKMatchSpec.preB enc Tryz.checked.prog Tryz.f4 [] false ((kWorld os).forCall (fun _ _ => 0) ⟨#[], kArgs, []⟩).memory kArgs 8 = true := by kernel_rfl
theorem kSized {H : Type} (enc : TypeId × Value → H) (os : Os) : Rows.fnKMatchSpec.sizedB enc Tryz.checked.prog Tryz.f4 false ((kWorld os).forCall (fun _ _ => 0) ⟨#[], kArgs, []⟩).memory kArgs 8 = true := by kernel_rfl
end Go.Proofs.YtcllaplddebilaaGreatDoor

/- laws.FnKMatch: a part of the proof: Wit. -/
import Derived.KernelRfl
import Derived.LaidLaws
import Derived.LaidMore
import Derived.Lay
import Derived.Lib.LaidIn
import Derived.MakeChecks
import Derived.Test.YtcllaplddebilaaGreatDoorProg
import Derived.Test.YtcllaplddebilaaGreatDoorRows
import Derived.Test.YtcllaplddebilaaGreatDoorK00
set_option maxRecDepth 1000000
set_option maxHeartbeats 64000000
set_option linter.unusedVariables false
set_option linter.unusedSimpArgs false
namespace Go.Proofs.YtcllaplddebilaaGreatDoor
open Go.RowKit Go.Sort
attribute [local go_sem] cell?_grow frozen?_grow cell?_redrawn frozen?_redrawn size_redrawn size_grow ba_get ba_extract
attribute [local simp] size_redrawn
open Go.Lib
noncomputable def kDoor (os : Os) : World := World.doorLaid Tryz.prog 600 os
noncomputable def kWorld (os : Os) : World := (kDoor os).layVars Tryz.prog [("unicode/utf8.first", Rows.laid_unicode_utf8_first)]
noncomputable def kArgs : Array Value := #[.agg #[.string ⟨#[]⟩, .bool false, .bool false, .bool false, .int .i64 0, .int .i64 0, .slice none 0 0, .slice none 0 0], .agg #[.string ⟨#[]⟩, .slice none 0 0, .slice none 0 0]]
noncomputable def kB (os : Os) : List Nat := (List.range (kDoor os).heap.size).filter (fun i => i != 17)
theorem kMet1 (os : Os) : (kDoor os).layFits Tryz.prog (Rows.fnKMatchRow.laid.filter fun x => ["unicode/utf8.first"].contains x.1) (kB os) = true := by kernel_rfl
theorem kMet2 (os : Os) : (kDoor os).layIfaces Tryz.prog (Rows.fnKMatchRow.laid.filter fun x => ["unicode/utf8.first"].contains x.1) ((kWorld os).forCall (fun _ _ => 0) ⟨#[], kArgs, []⟩).memory = true := by kernel_rfl
theorem kRun1 (os : Os) : (DataW.laidRun Tryz.prog ((kWorld os).forCall (fun _ _ => 0) ⟨#[], kArgs, []⟩).memory 8 ((Rows.fnKMatchRow.laid.filter fun x => !["unicode/utf8.first"].contains x.1).map (·.1))).map (·.1) = some (Rows.fnKMatchRow.laid.filter fun x => !["unicode/utf8.first"].contains x.1) := by kernel_rfl
theorem kRun2 (os : Os) : (DataW.laidRun Tryz.prog ((kWorld os).forCall (fun _ _ => 0) ⟨#[], kArgs, []⟩).memory 8 ((Rows.fnKMatchRow.laid.filter fun x => !["unicode/utf8.first"].contains x.1).map (·.1))).map (fun x => nodupB (x.2.map MemPlace.codeOf)) = some true := by kernel_rfl
theorem kRun3 (os : Os) : (DataW.laidRun Tryz.prog ((kWorld os).forCall (fun _ _ => 0) ⟨#[], kArgs, []⟩).memory 8 ((Rows.fnKMatchRow.laid.filter fun x => !["unicode/utf8.first"].contains x.1).map (·.1))).map (fun x => laidRowsB Tryz.prog ((kWorld os).forCall (fun _ _ => 0) ⟨#[], kArgs, []⟩).memory x.2) = some true := by kernel_rfl
theorem kRun4 (os : Os) : (DataW.laidRun Tryz.prog ((kWorld os).forCall (fun _ _ => 0) ⟨#[], kArgs, []⟩).memory 8 ((Rows.fnKMatchRow.laid.filter fun x => !["unicode/utf8.first"].contains x.1).map (·.1))).map (fun x => x.2.all fun p => (kB os).contains p.block) = some true := by kernel_rfl
theorem kHeap (os : Os) : ((kWorld os).forCall (fun _ _ => 0) ⟨#[], kArgs, []⟩).memory.heap = ((kDoor os).layVars Tryz.prog (Rows.fnKMatchRow.laid.filter fun x => ["unicode/utf8.first"].contains x.1)).heap := by
 have h : (Rows.fnKMatchRow.laid.filter fun x => ["unicode/utf8.first"].contains x.1) = [("unicode/utf8.first", Rows.laid_unicode_utf8_first)] := by simp [Rows.fnKMatchRow]
 rw [h]
 rfl
theorem kMet (os : Os) : laidMetH Tryz.prog Rows.fnKMatchRow.laid ((kWorld os).forCall (fun _ _ => 0) ⟨#[], kArgs, []⟩).memory := by
 rw [MakeChecks.laidMetH_plain _ _ _ (by kernel_rfl)]
 exact laidMet_layVars ["unicode/utf8.first"] (kB os) (kHeap os) (kMet1 os) (kMet2 os) (LaidIn.of_run (kB os) 8 (kRun1 os) (kRun2 os) (kRun3 os) (kRun4 os))
end Go.Proofs.YtcllaplddebilaaGreatDoor

/- laws.FnKMatch: a part of the proof: Facts. -/
import Derived.JoinedOf
import Derived.KernelRfl
import Derived.Test.YtcllaplddebilaaGreatDoorProg
import Derived.Test.YtcllaplddebilaaGreatDoorRows
import Derived.Test.YtcllaplddebilaaGreatDoorK00
set_option maxRecDepth 1000000
set_option maxHeartbeats 64000000
set_option linter.unusedVariables false
set_option linter.unusedSimpArgs false
namespace Go.Proofs.YtcllaplddebilaaGreatDoor
open Go.RowKit Go.Sort
attribute [local go_sem] cell?_grow frozen?_grow cell?_redrawn frozen?_redrawn size_redrawn size_grow ba_get ba_extract
attribute [local simp] size_redrawn
theorem kF0 : (Rows.fnKMatchRow.wf (OpenSpec.ofChange Rows.fnKMatchSpec)) = true := by kernel_rfl
theorem kF1 : (laidOutB Tryz.pinned.checked.prog) = true := by kernel_rfl
theorem kF2 : (mapsRowed Tryz.pinned.checked.prog) = true := by kernel_rfl
theorem kF3 : (Tryz.f4.params.all (Tryz.pinned.checked.prog.readableRec ·)) = true := by kernel_rfl
theorem kF4 : (namedTie Tryz.pinned.checked.prog Rows.fnKMatchRow.named Rows.fnKMatchSpec.vars) = true := by kernel_rfl
theorem kF5 : ((Rows.fnKMatchRow.stops == [])) = true := by kernel_rfl
theorem kF6 : ((Tryz.pinned.checked.prog.stops == [])) = true := by kernel_rfl
theorem kF7 : ((Rows.fnKMatchRow.knobs == [])) = true := by kernel_rfl
theorem kF8 : ((Tryz.pinned.checked.prog.stopKnobs == [])) = true := by kernel_rfl
theorem kF9 : ((Rows.fnKMatchRow.inPlace == Tryz.pinned.checked.prog.inPlace 4)) = true := by kernel_rfl
theorem kF10 : ((Rows.fnKMatchRow.unfollowed == Tryz.pinned.checked.prog.unfollowed 4)) = true := by kernel_rfl
theorem kF11 : ((Rows.fnKMatchRow.recurses == Tryz.pinned.checked.prog.recurses 4)) = true := by kernel_rfl
theorem kF12 : ((Rows.fnKMatchRow.named == Tryz.pinned.checked.prog.varsNamed 4)) = true := by kernel_rfl
theorem kF13 : ((Rows.fnKMatchRow.maps == (Tryz.f4.params.toList ++ Rows.fnKMatchSpec.plain.varTypes Tryz.pinned.checked.prog).any (Tryz.pinned.checked.prog.mapsRec ·))) = true := by kernel_rfl
theorem kF14 : ((Rows.fnKMatchRow.ifaces == (Tryz.f4.params.toList ++ Rows.fnKMatchSpec.plain.varTypes Tryz.pinned.checked.prog).any (Tryz.pinned.checked.prog.ifacesRec ·))) = true := by kernel_rfl
theorem kF15 : ((Rows.fnKMatchRow.mapsOut == Tryz.pinned.checked.prog.mapsAmong Tryz.f4.resultTypes.toList)) = true := by kernel_rfl
theorem kF16 : ((Rows.fnKMatchRow.loops == (Tryz.f4.params.toList ++ Rows.fnKMatchSpec.plain.varTypes Tryz.pinned.checked.prog).any (Tryz.pinned.checked.prog.loopsFrom ·))) = true := by kernel_rfl
theorem kF17 : ((Rows.fnKMatchRow.wideKeys == (Tryz.f4.params.toList ++ Rows.fnKMatchSpec.plain.varTypes Tryz.pinned.checked.prog ++ Tryz.f4.resultTypes.toList).any (Tryz.pinned.checked.prog.wideKeysFrom ·))) = true := by kernel_rfl
theorem kF18 : (Rows.fnKMatchSpec.vars.all (Tryz.pinned.checked.prog.varReadable ·)) = true := by kernel_rfl
theorem kF19 : (Tryz.f4.resultTypes.all (fun t => Tryz.pinned.checked.prog.readableRec t && decide (t < Tryz.pinned.checked.prog.types.size))) = true := by kernel_rfl
theorem kF20 : ((Rows.fnKMatchRow.ifacesOut == Tryz.f4.resultTypes.toList.any (Tryz.pinned.checked.prog.ifacesRec ·))) = true := by kernel_rfl
theorem kF21 : ((Rows.fnKMatchRow.loopsOut == Tryz.f4.resultTypes.toList.any (Tryz.pinned.checked.prog.loopsFrom ·))) = true := by kernel_rfl
theorem kF22 : ((Rows.fnKMatchRow.plainKeys == Tryz.pinned.checked.prog.plainKeys)) = true := by kernel_rfl
theorem kF23 : (Rows.fnKMatchRow.shortTexts.isNone) = true := by kernel_rfl
theorem kF24 : (Tryz.pinned.checked.prog.stopsHeard) = true := by kernel_rfl
theorem kF25 : (Tryz.pinned.checked.prog.mayEnter) = true := by kernel_rfl
theorem kF26 : ((Rows.fnKMatchRow.lifted == Tryz.pinned.checked.prog.liftsFinal)) = true := by kernel_rfl
theorem kF27 : ((Tryz.pinned.checked.prog.make == some Rows.fnKMatchRow.make)) = true := by kernel_rfl
theorem kF28 : ((Rows.fnKMatchRow.kinds == (if Rows.fnKMatchRow.domain.isEmpty then [] else Tryz.f4.params.toList.map fun t => match Tryz.pinned.checked.prog.underlying t with | some (.int k) => some k | _ => none))) = true := by kernel_rfl
theorem kF29 : ((Rows.fnKMatchRow.pinned == Rows.fnKMatchRow.pinnedBy)) = true := by kernel_rfl
theorem kF30 : ((Rows.fnKMatchRow.veiled == (Tryz.f4.params.toList ++ Rows.fnKMatchSpec.plain.varTypes Tryz.pinned.checked.prog ++ Tryz.f4.resultTypes.toList).any (Tryz.pinned.checked.prog.veiledRec ·))) = true := by kernel_rfl
theorem kF31 : (Rows.fnKMatchRow.veiledFits Tryz.pinned.checked.prog Tryz.f4.params.toList (Tryz.f4.params.toList ++ Rows.fnKMatchSpec.plain.varTypes Tryz.pinned.checked.prog ++ Tryz.f4.resultTypes.toList)) = true := by kernel_rfl
theorem kFacts : joinedFacts Tryz.pinned.checked.prog 4 Tryz.f4 Rows.fnKMatchSpec Rows.fnKMatchRow = true := by
 simp only [joinedFacts, Bool.and_eq_true]
 exact ⟨⟨⟨⟨⟨⟨⟨⟨⟨⟨⟨⟨⟨⟨⟨⟨⟨⟨⟨⟨⟨⟨⟨⟨⟨⟨⟨⟨⟨⟨⟨kF0, kF1⟩, kF2⟩, kF3⟩, kF4⟩, kF5⟩, kF6⟩, kF7⟩, kF8⟩, kF9⟩, kF10⟩, kF11⟩, kF12⟩, kF13⟩, kF14⟩, kF15⟩, kF16⟩, kF17⟩, kF18⟩, kF19⟩, kF20⟩, kF21⟩, kF22⟩, kF23⟩, kF24⟩, kF25⟩, kF26⟩, kF27⟩, kF28⟩, kF29⟩, kF30⟩, kF31⟩
end Go.Proofs.YtcllaplddebilaaGreatDoor

/- laws.FnKMatch returns true whatever filter and calendar it is given, and both read afterwards as they read before. Conditions: the row's own (arguments that can be read as data within the form's reach; the listed package variables start as the program's text lays them, which the card ties); no other. -/
import GoSem.ClaimGoes
import GoSem.ClaimSeven
import Derived.Test.YtcllaplddebilaaGreatDoorK34
import Derived.Test.YtcllaplddebilaaGreatDoorK35
import Derived.Test.YtcllaplddebilaaGreatDoorK36
set_option maxRecDepth 1000000
set_option maxHeartbeats 64000000
set_option linter.unusedVariables false
set_option linter.unusedSimpArgs false
namespace Go.Proofs.YtcllaplddebilaaGreatDoor
open Go.RowKit Go.Sort
attribute [local go_sem] cell?_grow frozen?_grow cell?_redrawn frozen?_redrawn size_redrawn size_grow ba_get ba_extract
attribute [local simp] size_redrawn
theorem kNamed : Tryz.pinned.checked.prog.funcNamed Rows.fnKMatchRow.func = some 4 := by kernel_rfl
theorem kNamed2 : Tryz.prog.funcNamed "given.example/pub-calendrier/laws.FnKMatch" = some 4 := by kernel_rfl
theorem kInst : Tryz.f4.isInstance Tryz.pinned.checked.prog Rows.fnKMatchRow.origin Rows.fnKMatchRow.targs := of_decide_eq_true (by kernel_rfl)
theorem kWrap : Tryz.f4.isWrapper Tryz.pinned.checked.prog Rows.fnKMatchRow.wrapper Rows.fnKMatchRow.mainSum := by
 unfold Func.isWrapper
 first
 | (rw [if_pos (by decide +kernel)]; kernel_rfl)
 | (rw [if_neg (by decide +kernel)]; exact ⟨rfl, rfl⟩)
theorem fnKMatch_said : Rows.FnKMatchSaid :=
 OpenClaim.holds_of_wide 4 Tryz.f4 rfl rfl rfl rfl rfl rfl rfl ⟨rfl, rfl, rfl, rfl, rfl⟩ rfl rfl rfl rfl rfl kNamed Tryz.func4 kFacts kInst kWrap
  (fun os started H enc _ => lifted os started H enc)
theorem kLooks : true = Tryz.pinned.checked.prog.looks [] := by kernel_rfl
theorem kStand : (([42, 36] : List TypeId).all fun u => !Tryz.prog.wantsStandIn u) = true := by kernel_rfl
theorem kPlain (f : FuncId) (fn : Func) (hf : Tryz.pinned.checked.prog.funcNamed "given.example/pub-calendrier/laws.FnKMatch" = some f) (hfn : Tryz.pinned.checked.prog.funcs[f]? = some fn) :
  true = Tryz.pinned.checked.prog.looks [] ∧ ∀ (j : Nat) t, fn.params[j]? = some t → Tryz.pinned.checked.prog.wantsStandIn t = false := by
 obtain rfl : f = 4 := (Option.some.inj (kNamed2.symm.trans hf)).symm
 obtain rfl : fn = Tryz.f4 := (Option.some.inj (Tryz.func4.symm.trans hfn)).symm
 refine ⟨kLooks, fun j t ht => ?_⟩
 rw [Tryz.params4] at ht
 have hm : t ∈ ([42, 36] : List TypeId) := by simpa using Array.mem_of_getElem? ht
 exact (show Tryz.prog.wantsStandIn t = false by simpa using List.all_eq_true.1 kStand t hm)
theorem kWf : Rows.fnKMatchRow.wfByText (OpenSpec.ofChange Rows.fnKMatchSpec) = true := by kernel_rfl
theorem kMain : Tryz.pinned.checked.prog.mainIs = some (true, ("d01ad88f7ead8dcd87c228292f6d2240ccff6ae690c49f8dbf3cabb1a99ef396").toList) := by kernel_rfl
theorem kNoGo : Tryz.pinned.checked.prog.funcs.any Func.goes = false := by kernel_rfl
theorem goes_none {P : Program} (h : P.funcs.any Func.goes = false) (f : FuncId) : P.goes f = false := by
 have h2 : ∀ (g : Nat) (fn : Func), P.funcs[g]? = some fn → fn.goes = false := fun g fn hg => by
  rw [Array.any_eq_false] at h
  obtain ⟨hlt, rfl⟩ := Array.getElem?_eq_some_iff.1 hg
  simpa using h g hlt
 unfold Program.goes
 rw [h, Bool.and_false, Bool.or_false, Bool.eq_false_iff]
 intro hany
 simp only [List.any_eq_true, Array.any_eq_true] at hany
 obtain ⟨g, _, hg⟩ := hany
 cases hf : P.funcs[g]? with
 | none => rw [hf] at hg; simp at hg
 | some fn => rw [hf] at hg; simp [h2 g fn hf] at hg
theorem kGoes : false = Rows.fnKMatchRow.goesBy Tryz.pinned.checked.prog := by
 unfold OpenClaim.goesBy Program.goesAt Program.goesFrom
 rw [kNamed, Option.any_some, goes_none kNoGo]
 rfl
theorem fnKMatch_card : Rows.FnKMatchCardSaid :=
 Claim7.holds_tied_plain_at (p := Tryz.pinned) (s := OpenSpec.ofChange Rows.fnKMatchSpec) (c := Rows.fnKMatchRow) .later [] [.data, .data, .data, .data, .sentinel, .sentinel, .sentinel, .data, .widerDeep, .widerDeep, .sentinel, .sentinel, .sentinel, .sentinel, .sentinel, .sentinel, .sentinel, .data, .data, .data, .data, .data, .data, .data, .mapped, .pinned] true (true, "d01ad88f7ead8dcd87c228292f6d2240ccff6ae690c49f8dbf3cabb1a99ef396") true fnKMatch_said (fun _ h => by cases h) kWf (fun _ h => by cases h) kRowTie rfl ⟨rfl, rfl⟩ kMain rfl kPlain kGoes
end Go.Proofs.YtcllaplddebilaaGreatDoor

/- laws.FnKMatch: a part of the proof: RowA. -/
import Derived.Carry
import Derived.ChangeOld
import Derived.OpenShut
import Derived.OpenVars
import Derived.ProofKit
import Derived.SevenTiedAt
import Derived.Test.YtcllaplddebilaaGreatDoorCards
import Derived.Test.YtcllaplddebilaaGreatDoorK02
import Derived.Test.YtcllaplddebilaaGreatDoorK32
import Derived.Test.YtcllaplddebilaaGreatDoorK33
set_option maxRecDepth 1000000
set_option maxHeartbeats 64000000
set_option linter.unusedVariables false
set_option linter.unusedSimpArgs false
namespace Go.Proofs.YtcllaplddebilaaGreatDoor
open Go.RowKit Go.Sort
attribute [local go_sem] cell?_grow frozen?_grow cell?_redrawn frozen?_redrawn size_redrawn size_grow ba_get ba_extract
attribute [local simp] size_redrawn
open Go.Lib Go.ChangeShapes Go.WideShapes Go.Proofs.YtcllaplddebilaaGreatDoorW.PrintWords Go.Proofs.YtcllaplddebilaaGreatDoorW.PrintLast Go.Proofs.YtcllaplddebilaaGreatDoorW.PrintMore PFnKMatch
theorem kOwn : ownKnob Tryz.prog.godebug = none := by kernel_rfl
theorem kLaidOut : laidOutB Tryz.prog = true := by kernel_rfl
theorem agg_of {v : Value} {t : TypeId} {fs : Array Field} {W : World} {b : Nat} {cs : List Value} (ht : Tryz.prog.underlying t = some (.struct fs)) (hv : Value.okWide Tryz.prog W .any b t v) (h : v.cells.toList = cs) : v = .agg cs.toArray := by
 obtain ⟨xs, rfl, _⟩ := okWide_struct ht hv
 have h2 : xs.toList = cs := h
 rw [← h2]
theorem trodVars_len {H : Type} {enc : TypeId × Value → H} {P : Program} {W : World} {sp : Nat → Bool} : ∀ {ns : List String} {gs : List (DataW H)} {ps : List MemPlace}, DataW.TrodVars enc P W sp ns gs ps → gs.length = ns.length
 | [], [], _, _ => rfl
 | [], _ :: _, _, h => h.elim
 | _ :: _, [], _, h => h.elim
 | n :: ns, d :: ds, ps, h => by
  obtain ⟨g, t, cs, fuel, p, q, h1, h2, h3, h4, hs, e⟩ := h
  simp [trodVars_len hs]
theorem lifted (os : Os) (started : os.Started) (H : Type) (enc : TypeId × Value → H) :
  ReturnsInHanded {} Tryz.checked os 4 .any (fun w args => (Rows.fnKMatchSpec.pre enc Tryz.prog Tryz.f4 [] false w args ∧ laidMetH Tryz.prog Rows.fnKMatchRow.laid w) ∧ sizedMet enc Tryz.prog Tryz.f4 (OpenSpec.ofChange Rows.fnKMatchSpec) false w args)
   (Rows.fnKMatchSpec.post enc Tryz.prog Tryz.f4 false true false false) := by
 refine returnsInHanded_of_change_and (C := Tryz.checked) (X := fun w _ => laidMetH Tryz.prog Rows.fnKMatchRow.laid w) (fun _ _ _ hh h => h.of_heap hh) kOwn started (by kernel_rfl) Tryz.func4
  (ChangeSpec.witness_shaped (enc := enc) (C := Tryz.checked) (os := os) (X := fun w _ => laidMetH Tryz.prog Rows.fnKMatchRow.laid w) false (kWorld os) kArgs 8 rfl (World.shaped_of_ZipB (kShaped1 os) (kShaped2 os)) (kOk os) (kPre enc os) (kSized enc os) (kMet os)) ?_
 intro W base args ds gs before hval0 hW _ hsz0 hL _
 have hval : ∀ (j : Nat) t v, Tryz.f4.params[j]? = some t → args[j]? = some v → Value.okWide Tryz.prog W .any base t v := hval0
 have hsz : (DataW.weightsEach Tryz.prog (Tryz.f4.params.toList ++ Rows.fnKMatchSpec.plain.varTypes Tryz.prog) (ds ++ gs)).all (· ≤ reachBytes) = true := hsz0
 have hW' := hW
 obtain ⟨p, q, hA0, hV, rfl, hfz, hnd⟩ := hW
 have hA : DataW.TrodAll enc Tryz.prog W 0 (fun _ => true) true Tryz.f4.params.toList args.toList ds p := hA0
 rw [Tryz.params4] at hA hsz hval
 obtain ⟨v0, vs0, d0, ds0, p0, q0, hargs, rfl, rfl, h0, r0⟩ := trodAll_cons hA
 obtain ⟨v1, vs1, d1, ds1, p1, q1, rfl, rfl, rfl, h1, r1⟩ := trodAll_cons r0
 obtain ⟨rfl, rfl, rfl⟩ := trodAll_nil r1
 obtain rfl : args = #[v0, v1] := by cases args; simp_all
 have k0 := h0
 have k1 := h1
 have lt0 : ∀ x ∈ p0, x.block < W.heap.size := by obtain ⟨m, hm⟩ := k0; exact DataW.trod_lt m _ _ _ hm
 have lt1 : ∀ x ∈ p1, x.block < W.heap.size := by obtain ⟨m, hm⟩ := k1; exact DataW.trod_lt m _ _ _ hm
 obtain ⟨n0, t0⟩ := h0
 obtain ⟨n1, t1⟩ := h1
 have hw0 : ∀ n ∈ d0.weights Tryz.prog 42, n ≤ reachBytes := fun n hn => by
  have := List.all_eq_true.1 hsz n (DataW.weights_mem_each (j := 0) rfl rfl n hn)
  simpa using this
 have hw1 : ∀ n ∈ d1.weights Tryz.prog 36, n ≤ reachBytes := fun n hn => by
  have := List.all_eq_true.1 hsz n (DataW.weights_mem_each (j := 1) rfl rfl n hn)
  simpa using this
 obtain ⟨fc, A, B, c, c2, e0, hp, hk⟩ := read_filter t0 hw0
 obtain ⟨x, D, E, c3, c4, e1, hp2, hk2, hR⟩ := read_calendar t1 hw1
 have q0 := agg_of Tryz.underlying42 (hval 0 _ v0 rfl rfl) e0
 have q1 := agg_of Tryz.underlying36 (hval 1 _ v1 rfl rfl) e1
 obtain ⟨f, ea, ef, hE, hG, hD, hTab⟩ := laid_env hL
 clear hA0 hval0 hsz0 hsz hval e0 e1 t0 t1 hw0 hw1 hL hA
 subst q0
 subst q1
 have hgl : gs.length = 14 := (trodVars_len hV).trans rfl
 match gs, hgl, hV, hW' with
 | [g1, g2, g3, g4, g5, g6, g7, g8, g9, g10, g11, g12, g13, g14], _, hV, hW' =>
 refine (law f ea ef fc x A B D E c c2 c3 c4 W hp hk hp2 hk2 hR hE hD hG hTab).mono fun e W' ⟨he, bel⟩ => ?_
 subst he
 exact ⟨_, rfl, _, _, _, [], _, _, hW', trodAll_mk1 (shut_bool Tryz.underlying4 _), trodAll_cons_mk (Below.trod kLaidOut (by kernel_rfl) (of_decide_eq_true (by kernel_rfl)) k0 bel lt0) (trodAll_cons_mk (Below.trod kLaidOut (by kernel_rfl) (of_decide_eq_true (by kernel_rfl)) k1 bel lt1) trodAll_mk0), Below.trodVars kLaidOut bel (by kernel_rfl) hV, bel.frame _, fun h => by cases h⟩
end Go.Proofs.YtcllaplddebilaaGreatDoor

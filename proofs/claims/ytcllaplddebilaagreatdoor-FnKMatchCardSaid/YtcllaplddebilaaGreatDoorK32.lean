/- laws.FnKMatch: a part of the proof: Iawake, Law, Args. -/
import Derived.ChangeArms
import Derived.DataElems
import Derived.DataReads
import Derived.Defers
import Derived.Recover
import Derived.SizedLaws
import GoSem.ClaimJoined
import Derived.Test.YtcllaplddebilaaGreatDoorK27
import Derived.Test.YtcllaplddebilaaGreatDoorK28
import Derived.Test.YtcllaplddebilaaGreatDoorK31
set_option maxRecDepth 1000000
set_option maxHeartbeats 64000000
set_option linter.unusedVariables false
set_option linter.unusedSimpArgs false
section
namespace Go.Proofs.YtcllaplddebilaaGreatDoor
open Go.RowKit Go.Sort
attribute [local go_sem] cell?_grow frozen?_grow cell?_redrawn frozen?_redrawn size_redrawn size_grow ba_get ba_extract
attribute [local simp] size_redrawn
open Go.Lib Go.Proofs.YtcllaplddebilaaGreatDoorW.PrintWords Go.Proofs.YtcllaplddebilaaGreatDoorW.PrintLast Go.Proofs.YtcllaplddebilaaGreatDoorW.PrintMore
theorem idecode_idle (p q : Addr) (w : World) :
  CallsD Tryz.prog 40 #[.pointer (some p), .pointer (some q)] .returning w fun e u' w' => e = .returned (.tuple #[]) ∧ u' = .returning ∧ w' = w := by
 refine callsD_of_wpS Tryz.func40 rfl fun c₀ cs hu => ?_
 apply wpS_seq
 apply wpS_region
 simp [wpOpsS, go_sem, recoverD, hu, Tryz.ntmps40, Exit.thenS]
 refine wpS_cond (t := false) (by simp [Act.eval, Array.replicate]) ?_
 simp only [Bool.false_eq_true, if_false]
 refine wpS_of_wp (wp_skip ?_)
 cases c₀
 simp_all [bodyPostS, results, Tryz.results40]
theorem neq_nil_nil (w : World) : (Go.binOp .neq 61 .nilIface .nilIface).run Tryz.prog w = .ok (.bool false) w := by kernel_rfl
theorem idecode (ea ef : Addr) (w : World) (hE : Er w ea ef) :
  Calls Tryz.prog 23 #[.string awk] w fun e w' => ∃ (a : Addr) (cp : Nat), e = .returned (.tuple #[.agg #[.string nmVC, .slice (some a) 1 cp, .slice none 0 0], .bool true]) ∧ Below w.heap.size w w' := by
 have hmf : ∀ (fn : Fn) (first cap : Array Value) (w : World), (Instr.makeFunc fn first cap).run Tryz.prog w = .ok (.func fn first cap) w := fun _ _ _ _ => rfl
 have hnn := neq_nil_nil
 go_enter_defers Tryz.func23, Tryz.ntmps23
 go_wp2_with (first | (go_at_call 42; go_in))
 refine (newDecoder (w.heap.size + 1 + 1) _).mono ?_
 rintro e w4 ⟨R, B, D, rfl, l1, l2, l3, n1, n2, n3, k1, k2, k3, k4⟩
 have hs0 : w4.heap[w.heap.size]? = some (.cells #[.string { data := #[] }, .slice none 0 0, .slice none 0 0] 36) := below_blk k4 (old_blk (old_blk (new_blk w _) _) _)
 have hs1 : w4.heap[w.heap.size + 1]? = some (.cells #[.bool false] 4) := by
  have h := below_blk k4 (old_blk (new_blk (w.alloc _) _) _)
  simpa using h
 have hs2 : w4.heap[w.heap.size + 1 + 1]? = some (.cells #[.string awk, .int .i64 0, .int .i64 (-1)] 178) := by
  have h := below_blk k4 (new_blk ((w.alloc _).alloc _) _)
  simpa using h
 have hb4 : Below w.heap.size w w4 := (((Below.refl _ _).alloc (Nat.le_refl _) _).alloc (by simp) _ |>.alloc (by simp; omega) _).trans (k4.mono (by simp; omega))
 simp only [World.size_alloc] at l1 l2 l3
 have hG := hE.size
 have hE4 := hE.below hb4 hG
 have hp : Pl D R B (w.heap.size + 1 + 1) := ⟨n1, by omega, fun h => n2 h.symm, fun h => n3 h.symm, by omega, by omega, by omega, by omega, by omega⟩
 have H0 := hI hs0
 have H1 := hI hs1
 have H4 := hI hb4
 have HE := hI hE4
 have HD : Hid (RdS w4 R B (w.heap.size + 1 + 1) awk 0 0 .nilIface (-1) (-1) zbuf 0) := hI ⟨k1, hs2, k2⟩
 have HK := hI k3
 clear hs0 hs1 hs2 hb4 hE4 k1 k2 k3 k4
 go_wp2_with fail
 go_at_call 43
 refine (decode D R B (w.heap.size + 1 + 1) ea ef w4 hp HD.out HK.out HE.out).mono ?_
 rintro e w5 ⟨K, C, P0, g, cap, M, cur, rfl, a1, a2, a3, a4, a5, yK, hC, yO⟩
 have cK : w5.cell? ⟨K, 0, none⟩ = some (.pointer (some ⟨C, 0, none⟩)) := (cell_blk yK 0).trans rfl
 have hs4 := H4.out.size
 have hs5 := yO.size
 have hb5 : Below w.heap.size w w5 := H4.out.trans (yO.below hs4 (by intro x hx; simp at hx; omega))
 have H0 := hI (yO.blk H0.out (by simp; omega))
 have H1 := hI (yO.blk H1.out (by simp; omega))
 have HC := hI hC
 have HB := hI hb5
 clear yK hC yO hb5
 go_wp2_with fail
 go_at_call 44
 refine (compOf1 C P0 g cap M cur w5 HC.out).mono ?_
 rintro e w6 ⟨a, cp, rfl, h6⟩
 have hs6 := h6.size
 have hs0 := below_blk h6 H0.out
 have hs1 := below_blk h6 H1.out
 have hb6 := HB.out.trans (h6.mono (by omega))
 have r0 : w6.cell? ⟨w.heap.size, 0, none⟩ = some (.string { data := #[] }) := (cell_blk hs0 0).trans rfl
 have r1 : w6.cell? ⟨w.heap.size, 1, none⟩ = some (.slice none 0 0) := (cell_blk hs0 1).trans rfl
 have r2 : w6.cell? ⟨w.heap.size, 2, none⟩ = some (.slice none 0 0) := (cell_blk hs0 2).trans rfl
 have r3 : w6.cell? ⟨w.heap.size + 1, 0, none⟩ = some (.bool false) := (cell_blk hs1 0).trans rfl
 have f0 : ∀ o, w6.frozen? ⟨w.heap.size, o, none⟩ = false := fun o => frozen_blk hs0 o (by omega)
 have f1 : ∀ o, w6.frozen? ⟨w.heap.size + 1, o, none⟩ = false := fun o => frozen_blk hs1 o (by omega)
 have HB := hI hb6
 have H0 := hI hs0
 have H1 := hI hs1
 clear hs0 hs1 hb6 h6
 go_wp2
 have q0 := set_blk (set_blk (set_blk H0.out 0 (.string nmVC)) 1 (.slice (some a) 1 cp)) 2 (.slice none 0 0)
 have q1 : ((((w6.setCell ⟨w.heap.size, 0, none⟩ (.string nmVC)).setCell ⟨w.heap.size, 1, none⟩ (.slice (some a) 1 cp)).setCell ⟨w.heap.size, 2, none⟩ (.slice none 0 0)).setCell ⟨w.heap.size + 1, 0, none⟩ (.bool true)).heap[w.heap.size]? = _ := (Below.heap_setCell _ ⟨w.heap.size + 1, 0, none⟩ _ w.heap.size (by simp)).trans q0
 have q2 := set_blk ((Below.heap_setCell (w6.setCell ⟨w.heap.size, 0, none⟩ (.string nmVC) |>.setCell ⟨w.heap.size, 1, none⟩ (.slice (some a) 1 cp)) ⟨w.heap.size, 2, none⟩ (.slice none 0 0) (w.heap.size + 1) (by simp)).trans ((Below.heap_setCell _ ⟨w.heap.size, 1, none⟩ _ (w.heap.size + 1) (by simp)).trans ((Below.heap_setCell _ ⟨w.heap.size, 0, none⟩ _ (w.heap.size + 1) (by simp)).trans H1.out))) 0 (.bool true)
 have q3 : Below w.heap.size w ((((w6.setCell ⟨w.heap.size, 0, none⟩ (.string nmVC)).setCell ⟨w.heap.size, 1, none⟩ (.slice (some a) 1 cp)).setCell ⟨w.heap.size, 2, none⟩ (.slice none 0 0)).setCell ⟨w.heap.size + 1, 0, none⟩ (.bool true)) := (((HB.out.setCell (by simp) _).setCell (by simp) _).setCell (by simp) _).setCell (by simp) _
 generalize hW7 : World.setCell _ _ _ = w7 at q1 q2 q3 ⊢
 have d0 : w7.cell? ⟨w.heap.size, 0, none⟩ = some (.string nmVC) := (cell_blk q1 0).trans rfl
 have d1 : w7.cell? ⟨w.heap.size, 1, none⟩ = some (.slice (some a) 1 cp) := (cell_blk q1 1).trans rfl
 have d2 : w7.cell? ⟨w.heap.size, 2, none⟩ = some (.slice none 0 0) := (cell_blk q1 2).trans rfl
 have d3 : w7.cell? ⟨w.heap.size + 1, 0, none⟩ = some (.bool true) := (cell_blk q2 0).trans rfl
 clear hW7 q0 q1 q2 r0 r1 r2 r3 f0 f1
 refine leaves_cons (f := 40) (args := #[.pointer (some ⟨w.heap.size, 0, none⟩), .pointer (some ⟨w.heap.size + 1, 0, none⟩)]) (by simp) (by simp [go_sem]) ?_
 refine (idecode_idle _ _ _).mono ?_
 rintro e u' w'' ⟨rfl, rfl, rfl⟩
 simp [Leaves, settle, results, Tryz.results23, go_sem, d0, d1, d2, d3]
 exact q3
theorem iawake (ea ef : Addr) (w : World) (hE : Er w ea ef) :
  Calls Tryz.prog 8 #[] w fun e w' => e = .returned (.bool true) ∧ Below w.heap.size w w' := by
 have hne : (nmVC.toList == [86, 67, 65, 76, 69, 78, 68, 65, 82]) = true := by rw [Lib.toList_data]; decide
 go_enter Tryz.func8, Tryz.ntmps8
 go_wp2_with fail
 go_at_call 23
 refine (idecode ea ef _ hE).mono ?_
 rintro e w1 ⟨a, cp, rfl, h1⟩
 go_wp2_with fail
 go_ret
 refine ⟨rfl, ?_⟩
 exact h1.alloc h1.size _
end Go.Proofs.YtcllaplddebilaaGreatDoor
end
section
namespace Go.Proofs.YtcllaplddebilaaGreatDoor
open Go.RowKit Go.Sort
attribute [local go_sem] cell?_grow frozen?_grow cell?_redrawn frozen?_redrawn size_redrawn size_grow ba_get ba_extract
attribute [local simp] size_redrawn
open Go.Lib Go.Proofs.YtcllaplddebilaaGreatDoorW.PrintWords Go.Proofs.YtcllaplddebilaaGreatDoorW.PrintLast Go.Proofs.YtcllaplddebilaaGreatDoorW.PrintMore PFnKMatch
theorem law (f : ByteArray → Option ByteArray) (ea ef : Addr) (fc : KCo) (x : S36) (A B D E : Option Addr) (c c2 c3 c4 : Nat) (w : World) (hp : kPr.C w A fc.props.length fc.props) (hk : kCo.C w B fc.comps.length fc.comps) (hp2 : k75.C w D x.f1.length x.f1) (hk2 : k36.C w E x.f2.length x.f2)
  (hR : AllC reachC x) (hE0 : Er w ea ef) (hD0 : Dv w f) (hG0 : Gl w) (hTab : TabOk f) :
  Calls Tryz.prog 4 #[.agg #[.string fc.name, .bool fc.absent, .bool fc.has, .bool fc.hasEnd, .int .i64 fc.st, .int .i64 fc.en, .slice A fc.props.length c, .slice B fc.comps.length c2], .agg #[.string x.f0, .slice D x.f1.length c3, .slice E x.f2.length c4]] w fun e w' => e = .returned (.bool true) ∧ Below w.heap.size w w' := by
 have hl1 := hk.2.1
 have hl2 := hk2.2.1
 go_enter Tryz.func4, Tryz.ntmps4
 go_upto_region 1 with (fail)
 have hb := (below_alloc (Below.refl w.heap.size w) (.cells #[.string fc.name, .bool fc.absent, .bool fc.has, .bool fc.hasEnd, .int .i64 fc.st, .int .i64 fc.en, .slice A fc.props.length c, .slice B fc.comps.length c2] 42)).alloc (by rw [World.size_alloc]; omega) (.cells #[.string x.f0, .slice D x.f1.length c3, .slice E x.f2.length c4] 36)
 have hF := old_blk (new_blk w (.cells #[.string fc.name, .bool fc.absent, .bool fc.has, .bool fc.hasEnd, .int .i64 fc.st, .int .i64 fc.en, .slice A fc.props.length c, .slice B fc.comps.length c2] 42)) (.cells #[.string x.f0, .slice D x.f1.length c3, .slice E x.f2.length c4] 36)
 have hX := new_blk (w.alloc (.cells #[.string fc.name, .bool fc.absent, .bool fc.has, .bool fc.hasEnd, .int .i64 fc.st, .int .i64 fc.en, .slice A fc.props.length c, .slice B fc.comps.length c2] 42)) (.cells #[.string x.f0, .slice D x.f1.length c3, .slice E x.f2.length c4] 36)
 rw [World.size_alloc] at hX
 generalize hw1 : World.alloc _ _ = w1 at hb hF hX ⊢
 have HB := hI hb
 have HF := hI hF
 have HX := hI hX
 clear hw1 hb hF hX
 have x0 : w1.cell? ⟨w.heap.size, 0, none⟩ = some (.string fc.name) := (cell_blk HF.out 0).trans rfl
 have x1 : w1.cell? ⟨w.heap.size, 1, none⟩ = some (.bool fc.absent) := (cell_blk HF.out 1).trans rfl
 have x2 : w1.cell? ⟨w.heap.size, 2, none⟩ = some (.bool fc.has) := (cell_blk HF.out 2).trans rfl
 have x3 : w1.cell? ⟨w.heap.size, 3, none⟩ = some (.bool fc.hasEnd) := (cell_blk HF.out 3).trans rfl
 have x4 : w1.cell? ⟨w.heap.size, 4, none⟩ = some (.int .i64 fc.st) := (cell_blk HF.out 4).trans rfl
 have x5 : w1.cell? ⟨w.heap.size, 5, none⟩ = some (.int .i64 fc.en) := (cell_blk HF.out 5).trans rfl
 have x6 : w1.cell? ⟨w.heap.size, 6, none⟩ = some (.slice A fc.props.length c) := (cell_blk HF.out 6).trans rfl
 have x7 : w1.cell? ⟨w.heap.size, 7, none⟩ = some (.slice B fc.comps.length c2) := (cell_blk HF.out 7).trans rfl
 go_wp2_with fail
 with_reducible refine (fits7 fc A B c c2 _ (Kd.C_below hp HB.out) (by omega)).mono ?_
 rintro _ w2 ⟨b, rfl, hb⟩
 clear x0 x1 x2 x3 x4 x5 x6 x7
 have HF := hI (below_blk hb HF.out)
 have HX := hI (below_blk hb HX.out)
 have HB := hI (HB.out.trans (hb.mono HB.out.size))
 clear hb
 cases b with
 | false =>
  go_wp2
  go_ret
  exact ⟨rfl, HB.out⟩
 | true =>
  have y0 : w2.cell? ⟨w.heap.size + 1, 0, none⟩ = some (.string x.f0) := (cell_blk HX.out 0).trans rfl
  have y1 : w2.cell? ⟨w.heap.size + 1, 1, none⟩ = some (.slice D x.f1.length c3) := (cell_blk HX.out 1).trans rfl
  have y2 : w2.cell? ⟨w.heap.size + 1, 2, none⟩ = some (.slice E x.f2.length c4) := (cell_blk HX.out 2).trans rfl
  go_wp2_with fail
  with_reducible refine (zfits1 x D E c3 c4 _ (Kd.C_below hp2 HB.out) (by omega)).mono ?_
  rintro _ w3 ⟨b, rfl, hb⟩
  clear y0 y1 y2
  have HF := hI (below_blk hb HF.out)
  have HX := hI (below_blk hb HX.out)
  have HB := hI (HB.out.trans (hb.mono HB.out.size))
  clear hb
  cases b with
  | false =>
   go_wp2
   go_ret
   exact ⟨rfl, HB.out⟩
  | true =>
   have y0 : w3.cell? ⟨w.heap.size + 1, 0, none⟩ = some (.string x.f0) := (cell_blk HX.out 0).trans rfl
   have y1 : w3.cell? ⟨w.heap.size + 1, 1, none⟩ = some (.slice D x.f1.length c3) := (cell_blk HX.out 1).trans rfl
   have y2 : w3.cell? ⟨w.heap.size + 1, 2, none⟩ = some (.slice E x.f2.length c4) := (cell_blk HX.out 2).trans rfl
   go_wp2_with fail
   with_reducible refine (icalm x hR D E c3 c4 _ (Kd.C_below hp2 HB.out) (Kd.C_below hk2 HB.out)).mono ?_
   rintro _ w4 ⟨b, rfl, hb, hok⟩
   clear y0 y1 y2
   have HF := hI (below_blk hb HF.out)
   have HX := hI (below_blk hb HX.out)
   have HB := hI (HB.out.trans (hb.mono HB.out.size))
   clear hb
   have HOK := hI hok
   clear hok
   cases b with
   | false =>
    go_wp2
    go_ret
    exact ⟨rfl, HB.out⟩
   | true =>
    have hOK := hI (HOK.out (by first | rfl | trivial))
    clear HOK
    have x0 : w4.cell? ⟨w.heap.size, 0, none⟩ = some (.string fc.name) := (cell_blk HF.out 0).trans rfl
    have x1 : w4.cell? ⟨w.heap.size, 1, none⟩ = some (.bool fc.absent) := (cell_blk HF.out 1).trans rfl
    have x2 : w4.cell? ⟨w.heap.size, 2, none⟩ = some (.bool fc.has) := (cell_blk HF.out 2).trans rfl
    have x3 : w4.cell? ⟨w.heap.size, 3, none⟩ = some (.bool fc.hasEnd) := (cell_blk HF.out 3).trans rfl
    have x4 : w4.cell? ⟨w.heap.size, 4, none⟩ = some (.int .i64 fc.st) := (cell_blk HF.out 4).trans rfl
    have x5 : w4.cell? ⟨w.heap.size, 5, none⟩ = some (.int .i64 fc.en) := (cell_blk HF.out 5).trans rfl
    have x6 : w4.cell? ⟨w.heap.size, 6, none⟩ = some (.slice A fc.props.length c) := (cell_blk HF.out 6).trans rfl
    have x7 : w4.cell? ⟨w.heap.size, 7, none⟩ = some (.slice B fc.comps.length c2) := (cell_blk HF.out 7).trans rfl
    go_wp2_with fail
    with_reducible refine (kcalm fc A B c c2 _ (Kd.C_below hp HB.out) (Kd.C_below hk HB.out)).mono ?_
    rintro _ w5 ⟨b, rfl, hb, hk0⟩
    clear x0 x1 x2 x3 x4 x5 x6 x7
    have HF := hI (below_blk hb HF.out)
    have HX := hI (below_blk hb HX.out)
    have HB := hI (HB.out.trans (hb.mono HB.out.size))
    clear hb
    have HK := hI hk0
    clear hk0
    cases b with
    | false =>
     go_wp2
     go_ret
     exact ⟨rfl, HB.out⟩
    | true =>
     have x0 : w5.cell? ⟨w.heap.size, 0, none⟩ = some (.string fc.name) := (cell_blk HF.out 0).trans rfl
     have x1 : w5.cell? ⟨w.heap.size, 1, none⟩ = some (.bool fc.absent) := (cell_blk HF.out 1).trans rfl
     have x2 : w5.cell? ⟨w.heap.size, 2, none⟩ = some (.bool fc.has) := (cell_blk HF.out 2).trans rfl
     have x3 : w5.cell? ⟨w.heap.size, 3, none⟩ = some (.bool fc.hasEnd) := (cell_blk HF.out 3).trans rfl
     have x4 : w5.cell? ⟨w.heap.size, 4, none⟩ = some (.int .i64 fc.st) := (cell_blk HF.out 4).trans rfl
     have x5 : w5.cell? ⟨w.heap.size, 5, none⟩ = some (.int .i64 fc.en) := (cell_blk HF.out 5).trans rfl
     have x6 : w5.cell? ⟨w.heap.size, 6, none⟩ = some (.slice A fc.props.length c) := (cell_blk HF.out 6).trans rfl
     have x7 : w5.cell? ⟨w.heap.size, 7, none⟩ = some (.slice B fc.comps.length c2) := (cell_blk HF.out 7).trans rfl
     have y0 : w5.cell? ⟨w.heap.size + 1, 0, none⟩ = some (.string x.f0) := (cell_blk HX.out 0).trans rfl
     have y1 : w5.cell? ⟨w.heap.size + 1, 1, none⟩ = some (.slice D x.f1.length c3) := (cell_blk HX.out 1).trans rfl
     have y2 : w5.cell? ⟨w.heap.size + 1, 2, none⟩ = some (.slice E x.f2.length c4) := (cell_blk HX.out 2).trans rfl
     obtain ⟨hKO, hKG⟩ := HK.out (by first | rfl | trivial)
     have hp5 := Kd.C_below hp HB.out
     have hk5 := Kd.C_below hk HB.out
     have hp25 := Kd.C_below hp2 HB.out
     have hk25 := Kd.C_below hk2 HB.out
     go_wp2_with fail
     with_reducible refine (kMatches _ f fc x A B D E c c2 c3 c4 hp5 hk5 hp25 hk25 hKO hOK.out hTab).mono ?_
     rintro _ w6 ⟨m, o, rfl, hb, hm⟩
     have HM := hI hm
     clear hm hp5 hk5 hp25 hk25 hKO hKG
     clear x0 x1 x2 x3 x4 x5 x6 x7
     clear y0 y1 y2
     have HF := hI (below_blk hb HF.out)
     have HX := hI (below_blk hb HX.out)
     have HB := hI (HB.out.trans (hb.mono HB.out.size))
     clear hb
     cases o with
     | true =>
      have hE := hE0.below HB.out hG0.size
      go_wp2_with fail
      with_reducible refine (iawake ea ef _ hE).mono ?_
      rintro _ w9 ⟨rfl, hb⟩
      have HB := hI (HB.out.trans (hb.mono HB.out.size))
      clear hb
      go_wp2
      go_ret
      exact ⟨rfl, HB.out⟩
     | false =>
      obtain ⟨hKO, hKG⟩ := HK.out (by first | rfl | trivial)
      have hM := HM.out (by first | rfl | trivial)
      obtain ⟨mv, hmv⟩ : ∃ v, mV fc x = v := ⟨_, rfl⟩
      obtain rfl : m = mv := hM.2.trans hmv
      have hc := fun w' (hb0 : Below w.heap.size w w') (hD : Dv w' f) (hG : Gl w') => kMatch f fc x A B D E c c2 c3 c4 w w' hb0 hKO hKG hOK.out hp hk hp2 hk2 hD hG hM.1
      rw [hmv] at hc
      have HC := hI hc
      clear hc hmv hM HM HK hKO hKG
      have x0 : w6.cell? ⟨w.heap.size, 0, none⟩ = some (.string fc.name) := (cell_blk HF.out 0).trans rfl
      have x1 : w6.cell? ⟨w.heap.size, 1, none⟩ = some (.bool fc.absent) := (cell_blk HF.out 1).trans rfl
      have x2 : w6.cell? ⟨w.heap.size, 2, none⟩ = some (.bool fc.has) := (cell_blk HF.out 2).trans rfl
      have x3 : w6.cell? ⟨w.heap.size, 3, none⟩ = some (.bool fc.hasEnd) := (cell_blk HF.out 3).trans rfl
      have x4 : w6.cell? ⟨w.heap.size, 4, none⟩ = some (.int .i64 fc.st) := (cell_blk HF.out 4).trans rfl
      have x5 : w6.cell? ⟨w.heap.size, 5, none⟩ = some (.int .i64 fc.en) := (cell_blk HF.out 5).trans rfl
      have x6 : w6.cell? ⟨w.heap.size, 6, none⟩ = some (.slice A fc.props.length c) := (cell_blk HF.out 6).trans rfl
      have x7 : w6.cell? ⟨w.heap.size, 7, none⟩ = some (.slice B fc.comps.length c2) := (cell_blk HF.out 7).trans rfl
      have y0 : w6.cell? ⟨w.heap.size + 1, 0, none⟩ = some (.string x.f0) := (cell_blk HX.out 0).trans rfl
      have y1 : w6.cell? ⟨w.heap.size + 1, 1, none⟩ = some (.slice D x.f1.length c3) := (cell_blk HX.out 1).trans rfl
      have y2 : w6.cell? ⟨w.heap.size + 1, 2, none⟩ = some (.slice E x.f2.length c4) := (cell_blk HX.out 2).trans rfl
      go_wp2_with fail
      with_reducible refine (HC.out w6 HB.out (hD0.below HB.out) (hG0.below HB.out hG0.size)).mono ?_
      rintro _ w7 ⟨rfl, hb⟩
      clear x0 x1 x2 x3 x4 x5 x6 x7
      clear y0 y1 y2
      have HF := hI (below_blk hb HF.out)
      have HX := hI (below_blk hb HX.out)
      have HB := hI (HB.out.trans (hb.mono HB.out.size))
      clear hb
      clear HC
      cases m with
      | true =>
       have hE := hE0.below HB.out hG0.size
       go_wp2_with fail
       with_reducible refine (iawake ea ef _ hE).mono ?_
       rintro _ w9 ⟨rfl, hb⟩
       have HB := hI (HB.out.trans (hb.mono HB.out.size))
       clear hb
       go_wp2
       go_ret
       exact ⟨rfl, HB.out⟩
      | false =>
       have hE := hE0.below HB.out hG0.size
       go_wp2_with fail
       with_reducible refine (iawake ea ef _ hE).mono ?_
       rintro _ w9 ⟨rfl, hb⟩
       have HB := hI (HB.out.trans (hb.mono HB.out.size))
       clear hb
       go_wp2
       go_ret
       exact ⟨rfl, HB.out⟩
section
variable {H : Type} {enc : TypeId × Value → H} {W : World} {N : Nat}
def Rd {α : Type} (enc : TypeId × Value → H) (W : World) (N : Nat) (K : Kd α) (t : TypeId) (Z : α → Prop) : Prop :=
 ∀ fuel, fuel ≤ N → ∀ cs (d : DataW H) p, DataW.trod enc Tryz.prog W 0 (fun _ => true) true fuel t cs = some (d, p) → (∀ n ∈ d.weights Tryz.prog t, n ≤ reachBytes) → ∃ x, K.K W x cs ∧ Z x
theorem rd_string {t : TypeId} (ht : Tryz.prog.underlying t = some .string) : Rd enc W N Kd.string t (fun s => s.size ≤ 140737488351232) := fun fuel hN cs d p hd hw => by
 obtain ⟨s, rfl, hx, _⟩ := DataW.trod_string ht hd
 obtain ⟨rfl, rfl⟩ := Prod.mk.inj hx
 refine ⟨s, rfl, ?_⟩
 have := hw s.data.toList.length (by simp [DataW.weights])
 rw [Array.length_toList] at this
 exact this
theorem rd_bool {t : TypeId} (ht : Tryz.prog.underlying t = some .bool) : Rd enc W N Kd.bool t (fun _ => True) := fun fuel hN cs d p hd hw => by
 obtain ⟨b, rfl, hx⟩ := DataW.trod_bool ht hd
 exact ⟨b, rfl, trivial⟩
theorem rd_int {t : TypeId} {k : IntKind} (ht : Tryz.prog.underlying t = some (.int k)) : Rd enc W N (Kd.int k) t (fun _ => True) := fun fuel hN cs d p hd hw => by
 obtain ⟨b, rfl, hx, _⟩ := DataW.trod_int ht hd
 exact ⟨b, rfl, trivial⟩
theorem weightsAll_mem {P : Program} {e : TypeId} : ∀ {l : List (DataW H)} {y : DataW H}, y ∈ l → ∀ n ∈ y.weights P e, n ∈ DataW.weightsAll P e l := by
 intro l
 induction l with
 | nil => intro y hy; cases hy
 | cons z l ih =>
  intro y hy n hn
  rw [DataW.weightsAll]
  rcases List.mem_cons.1 hy with rfl | h
  ·exact List.mem_append_left _ hn
  ·exact List.mem_append_right _ (ih h n hn)
theorem exists_list {α : Type} (R : Nat → α → Prop) : ∀ n, (∀ i, i < n → ∃ x, R i x) → ∃ l : List α, l.length = n ∧ ∀ i x, l[i]? = some x → R i x := by
 intro n
 induction n with
 | zero => exact fun _ => ⟨[], rfl, fun i x h => by simp at h⟩
 | succ n ih =>
  intro h
  obtain ⟨l, hl, hr⟩ := ih (fun i hi => h i (by omega))
  obtain ⟨x, hx⟩ := h n (by omega)
  refine ⟨l ++ [x], by simp [hl], fun i y hy => ?_⟩
  by_cases hi : i < l.length
  ·rw [List.getElem?_append_left hi] at hy
   exact hr i y hy
  ·have h2 := (List.getElem?_eq_some_iff.1 hy).1
   simp at h2
   obtain rfl : i = l.length := by omega
   simp at hy
   subst hy
   rw [hl]
   exact hx
theorem rd_slice {α : Type} {K : Kd α} {t e e' : TypeId} {Z : α → Prop} (ht : Tryz.prog.underlying t = some (.slice e)) (hs : K.sz = Tryz.prog.cellsOf e) (hb : decide (1 ≤ Tryz.prog.bytesOf e) = true) (h : Rd enc W N K e Z) :
  Rd enc W N (Kd.slice e' K) t (fun l => l.length ≤ 140737488351232 ∧ ∀ x ∈ l, Z x) := by
 intro fuel hN cs d p hd hw
 rcases DataW.trod_slice ht hd with ⟨rfl, hx⟩ | ⟨a, len, cap, elems, rest, n, rfl, rfl, hx, -, hl, hm, hlen, hel, -, -⟩
 ·exact ⟨[], ⟨none, 0, rfl, Nat.le_refl _, rfl, by simp, fun h => absurd h (by simp)⟩, by simp, by simp⟩
 ·obtain ⟨rfl, rfl⟩ := Prod.mk.inj hx
  have hw1 : ∀ y ∈ elems, ∀ m ∈ y.1.weights Tryz.prog e, m ≤ reachBytes := fun y hy m hm => hw m (by
   rw [DataW.weights, ht]
   exact List.mem_cons_of_mem _ (List.mem_append_left _ (weightsAll_mem (List.mem_map.2 ⟨y, hy, rfl⟩) m hm)))
  have hw2 : (elems.length + rest.length) * Tryz.prog.bytesOf e ≤ reachBytes := hw _ (by
   rw [DataW.weights, ht]
   simp)
  have hex : ∀ i, i < len → ∃ x, (∃ c, c.length = K.sz ∧ K.K W x c ∧ ∀ j u, c[j]? = some u → W.cell? (a.add (i * K.sz + j)) = some u) ∧ Z x := by
   intro i hi
   have h1 := hel i hi
   obtain ⟨y, hy⟩ : ∃ y, elems[i]? = some y := ⟨_, List.getElem?_eq_getElem (by omega)⟩
   rw [hy] at h1
   obtain ⟨c, hc, ht2⟩ := Option.bind_eq_some_iff.1 h1
   obtain ⟨-, hcl, hcc⟩ := World.cells?_some hc
   obtain ⟨x, hK, hZ⟩ := h n (by omega) c y.1 y.2 ht2 (hw1 y (List.mem_of_getElem? hy))
   refine ⟨x, ⟨c, K.K_len hK, hK, fun j u hj => ?_⟩, hZ⟩
   have hjl := (List.getElem?_eq_some_iff.1 hj).1
   rw [hs, ← Addr.add_add, hcc j (by omega), hj]
  obtain ⟨xs, hxl, hxs⟩ := exists_list _ len hex
  refine ⟨xs, ⟨some a, cap, by rw [hxl], by rw [hxl]; exact hl, ?_⟩, ?_, ?_⟩
  ·exact ⟨rfl, by rw [hxl]; exact Nat.le_trans hl hm, fun _ => ⟨a, rfl, fun j x hj => (hxs j x hj).1⟩⟩
  ·rw [hxl, ← hlen]
   have hb := of_decide_eq_true hb
   have h3 : elems.length * 1 ≤ (elems.length + rest.length) * Tryz.prog.bytesOf e := Nat.mul_le_mul (by omega) hb
   have h4 : reachBytes = 140737488351232 := rfl
   omega
  ·intro x hx
   obtain ⟨i, hi⟩ := List.getElem?_of_mem hx
   exact (hxs i x hi).2
theorem struct_cells {t : TypeId} {fs : Array Field} {fuel : Nat} {cs : List Value} {d : DataW H} {p : List MemPlace} (ht : Tryz.prog.underlying t = some (.struct fs)) (hc : (fs.toList.zipIdx.all fun f => decide (f.1.offset = f.2) && decide (Tryz.prog.cellsOf f.1.type = 1)) = true) (hz : Tryz.prog.cellsOf t = fs.size)
  (h : DataW.trod enc Tryz.prog W 0 (fun _ => true) true fuel t cs = some (d, p)) : ∃ (n : Nat) (xs : List (DataW H × List MemPlace)), fuel = n + 1 ∧ d = .agg (xs.map (·.1)) ∧ cs.length = fs.size ∧ xs.length = fs.size ∧
   ∀ (i : Nat) (f : Field) c, fs[i]? = some f → cs[i]? = some c → DataW.trod enc Tryz.prog W 0 (fun _ => true) true n f.type [c] = xs[i]? := by
 obtain ⟨xs, n, e, hx, hl, hxl, hf⟩ := DataW.trod_struct ht h
 obtain ⟨rfl, rfl⟩ := Prod.mk.inj hx
 refine ⟨n, xs, e, rfl, by rw [hl, hz], hxl, fun i f c hi hci => ?_⟩
 rw [← hf i f hi]
 have h1 := List.all_eq_true.1 hc (f, i) (by
  rw [List.mem_zipIdx_iff_getElem?]
  simpa using hi)
 simp only [Bool.and_eq_true, decide_eq_true_eq] at h1
 rw [h1.1, h1.2]
 congr 1
 obtain ⟨hlt, he⟩ := List.getElem?_eq_some_iff.1 hci
 rw [List.drop_eq_getElem_cons hlt, he]
 rfl
theorem rd_151 : Rd enc W N k151 151 (fun q => q.f0.size ≤ 140737488351232) := by
 intro fuel hN cs d p hd hw
 obtain ⟨n, xs, rfl, rfl, hcl, hxl, hf⟩ := struct_cells Tryz.underlying151 (by kernel_rfl) (by kernel_rfl) hd
 match cs, hcl, xs, hxl with
 | [c0, c1], _, [x0, x1], _ =>
  have h0 : DataW.trod enc Tryz.prog W 0 (fun _ => true) true n 9 [c0] = some (x0.1, x0.2) := hf 0 _ c0 rfl rfl
  have h1 : DataW.trod enc Tryz.prog W 0 (fun _ => true) true n 141 [c1] = some (x1.1, x1.2) := hf 1 _ c1 rfl rfl
  obtain ⟨a0, k0, z0⟩ := (rd_string (N := N) Tryz.underlying9) n (by omega) [c0] x0.1 x0.2 h0 (fun m hm => hw m (by
   rw [DataW.weights, Tryz.underlying151]
   show m ∈ DataW.weightsEach Tryz.prog [9, 141] [x0.1, x1.1]
   simp only [DataW.weightsEach, List.append_nil, List.mem_append]
   simp [hm]))
  obtain ⟨a1, k1, z1⟩ := (rd_slice (e' := 9) (N := N) (K := Kd.string) Tryz.underlying141 (by kernel_rfl) (by kernel_rfl) (rd_string Tryz.underlying9)) n (by omega) [c1] x1.1 x1.2 h1 (fun m hm => hw m (by
   rw [DataW.weights, Tryz.underlying151]
   show m ∈ DataW.weightsEach Tryz.prog [9, 141] [x0.1, x1.1]
   simp only [DataW.weightsEach, List.append_nil, List.mem_append]
   simp [hm]))
  exact ⟨⟨a0, a1⟩, ⟨[c0], _, rfl, k0, k1⟩, z0⟩
theorem rd_75 : Rd enc W N k75 75 (fun p => p.f0.size ≤ 140737488351232 ∧ p.f2.size ≤ 140737488351232 ∧ ∀ q ∈ p.f1, q.f0.size ≤ 140737488351232) := by
 intro fuel hN cs d p hd hw
 obtain ⟨n, xs, rfl, rfl, hcl, hxl, hf⟩ := struct_cells Tryz.underlying75 (by kernel_rfl) (by kernel_rfl) hd
 match cs, hcl, xs, hxl with
 | [c0, c1, c2], _, [x0, x1, x2], _ =>
  have h0 : DataW.trod enc Tryz.prog W 0 (fun _ => true) true n 9 [c0] = some (x0.1, x0.2) := hf 0 _ c0 rfl rfl
  have h1 : DataW.trod enc Tryz.prog W 0 (fun _ => true) true n 73 [c1] = some (x1.1, x1.2) := hf 1 _ c1 rfl rfl
  have h2 : DataW.trod enc Tryz.prog W 0 (fun _ => true) true n 9 [c2] = some (x2.1, x2.2) := hf 2 _ c2 rfl rfl
  obtain ⟨a0, k0, z0⟩ := (rd_string (N := N) Tryz.underlying9) n (by omega) [c0] x0.1 x0.2 h0 (fun m hm => hw m (by
   rw [DataW.weights, Tryz.underlying75]
   show m ∈ DataW.weightsEach Tryz.prog [9, 73, 9] [x0.1, x1.1, x2.1]
   simp only [DataW.weightsEach, List.append_nil, List.mem_append]
   simp [hm]))
  obtain ⟨a1, k1, z1⟩ := (rd_slice (e' := 151) (N := N) (K := k151) Tryz.underlying73 (by kernel_rfl) (by kernel_rfl) rd_151) n (by omega) [c1] x1.1 x1.2 h1 (fun m hm => hw m (by
   rw [DataW.weights, Tryz.underlying75]
   show m ∈ DataW.weightsEach Tryz.prog [9, 73, 9] [x0.1, x1.1, x2.1]
   simp only [DataW.weightsEach, List.append_nil, List.mem_append]
   simp [hm]))
  obtain ⟨a2, k2, z2⟩ := (rd_string (N := N) Tryz.underlying9) n (by omega) [c2] x2.1 x2.2 h2 (fun m hm => hw m (by
   rw [DataW.weights, Tryz.underlying75]
   show m ∈ DataW.weightsEach Tryz.prog [9, 73, 9] [x0.1, x1.1, x2.1]
   simp only [DataW.weightsEach, List.append_nil, List.mem_append]
   simp [hm]))
  exact ⟨⟨a0, a1, a2⟩, ⟨[c0], _, rfl, k0, ⟨[c1], _, rfl, k1, k2⟩⟩, ⟨z0, z2, z1.2⟩⟩
theorem rd_text : Rd enc W N kTxt 144 (fun _ => True) := by
 intro fuel hN cs d p hd hw
 rcases DataW.trod_pointer Tryz.underlying144 hd with ⟨rfl, _⟩ | ⟨a, cs', y, n, rfl, rfl, hx, hc, hy⟩
 ·exact ⟨none, ⟨none, rfl, rfl⟩, trivial⟩
 ·obtain ⟨rfl, rfl⟩ := Prod.mk.inj hx
  obtain ⟨-, hcl, hcc⟩ := World.cells?_some hc
  have hcl2 : cs'.length = 2 := hcl.trans (by kernel_rfl)
  obtain ⟨n2, xs, rfl, -, -, hxl, hf⟩ := struct_cells (d := y.1) (p := y.2) Tryz.underlying156 (by kernel_rfl) (by kernel_rfl) hy
  match cs', hcl2, xs, hxl with
  | [c0, c1], _, [x0, x1], _ =>
   have h0 : DataW.trod enc Tryz.prog W 0 (fun _ => true) true n2 9 [c0] = some (x0.1, x0.2) := hf 0 _ c0 rfl rfl
   have h1 : DataW.trod enc Tryz.prog W 0 (fun _ => true) true n2 4 [c1] = some (x1.1, x1.2) := hf 1 _ c1 rfl rfl
   obtain ⟨s, e0, -⟩ := DataW.trod_string Tryz.underlying9 h0
   obtain ⟨b, e1, -⟩ := DataW.trod_bool Tryz.underlying4 h1
   obtain rfl : c0 = .string s := by simpa using e0
   obtain rfl : c1 = .bool b := by simpa using e1
   have q0 : W.cell? a = some (.string s) := hcc 0 (by rw [← hcl]; show 0 < 2; omega)
   have q1 : W.cell? (a.add 1) = some (.bool b) := hcc 1 (by rw [← hcl]; show 1 < 2; omega)
   obtain ⟨ab, ao, sp⟩ := a
   cases sp with
   | some k =>
    exfalso
    simp only [World.cell?] at q0
    split at q0
    ·simp at q0
    ·cases q0
   | none => exact ⟨some (s, b), ⟨_, rfl, ab, ao, rfl, q0, q1⟩, trivial⟩
theorem rd_kPa : Rd enc W N kPa 158 (fun _ => True) := by
 intro fuel hN cs d p hd hw
 obtain ⟨n, xs, rfl, rfl, hcl, hxl, hf⟩ := struct_cells Tryz.underlying158 (by kernel_rfl) (by kernel_rfl) hd
 match cs, hcl, xs, hxl with
 | [c0, c1, c2], _, [x0, x1, x2], _ =>
  have h0 : DataW.trod enc Tryz.prog W 0 (fun _ => true) true n 9 [c0] = some (x0.1, x0.2) := hf 0 _ c0 rfl rfl
  have h1 : DataW.trod enc Tryz.prog W 0 (fun _ => true) true n 4 [c1] = some (x1.1, x1.2) := hf 1 _ c1 rfl rfl
  have h2 : DataW.trod enc Tryz.prog W 0 (fun _ => true) true n 144 [c2] = some (x2.1, x2.2) := hf 2 _ c2 rfl rfl
  obtain ⟨a0, k0, z0⟩ := (rd_string (N := N) Tryz.underlying9) n (by omega) [c0] x0.1 x0.2 h0 (fun m hm => hw m (by
   rw [DataW.weights, Tryz.underlying158]
   show m ∈ DataW.weightsEach Tryz.prog [9, 4, 144] [x0.1, x1.1, x2.1]
   simp only [DataW.weightsEach, List.append_nil, List.mem_append]
   simp [hm]))
  obtain ⟨a1, k1, z1⟩ := (rd_bool (N := N) Tryz.underlying4) n (by omega) [c1] x1.1 x1.2 h1 (fun m hm => hw m (by
   rw [DataW.weights, Tryz.underlying158]
   show m ∈ DataW.weightsEach Tryz.prog [9, 4, 144] [x0.1, x1.1, x2.1]
   simp only [DataW.weightsEach, List.append_nil, List.mem_append]
   simp [hm]))
  obtain ⟨a2, k2, z2⟩ := (rd_text (N := N)) n (by omega) [c2] x2.1 x2.2 h2 (fun m hm => hw m (by
   rw [DataW.weights, Tryz.underlying158]
   show m ∈ DataW.weightsEach Tryz.prog [9, 4, 144] [x0.1, x1.1, x2.1]
   simp only [DataW.weightsEach, List.append_nil, List.mem_append]
   simp [hm]))
  exact ⟨⟨a0, a1, a2⟩, ⟨[c0], _, rfl, k0, ⟨[c1], _, rfl, k1, k2⟩⟩, trivial⟩
theorem rd_kPr : Rd enc W N kPr 147 (fun _ => True) := by
 intro fuel hN cs d p hd hw
 obtain ⟨n, xs, rfl, rfl, hcl, hxl, hf⟩ := struct_cells Tryz.underlying147 (by kernel_rfl) (by kernel_rfl) hd
 match cs, hcl, xs, hxl with
 | [c0, c1, c2, c3, c4, c5, c6, c7], _, [x0, x1, x2, x3, x4, x5, x6, x7], _ =>
  have h0 : DataW.trod enc Tryz.prog W 0 (fun _ => true) true n 9 [c0] = some (x0.1, x0.2) := hf 0 _ c0 rfl rfl
  have h1 : DataW.trod enc Tryz.prog W 0 (fun _ => true) true n 4 [c1] = some (x1.1, x1.2) := hf 1 _ c1 rfl rfl
  have h2 : DataW.trod enc Tryz.prog W 0 (fun _ => true) true n 4 [c2] = some (x2.1, x2.2) := hf 2 _ c2 rfl rfl
  have h3 : DataW.trod enc Tryz.prog W 0 (fun _ => true) true n 4 [c3] = some (x3.1, x3.2) := hf 3 _ c3 rfl rfl
  have h4 : DataW.trod enc Tryz.prog W 0 (fun _ => true) true n 2 [c4] = some (x4.1, x4.2) := hf 4 _ c4 rfl rfl
  have h5 : DataW.trod enc Tryz.prog W 0 (fun _ => true) true n 2 [c5] = some (x5.1, x5.2) := hf 5 _ c5 rfl rfl
  have h6 : DataW.trod enc Tryz.prog W 0 (fun _ => true) true n 144 [c6] = some (x6.1, x6.2) := hf 6 _ c6 rfl rfl
  have h7 : DataW.trod enc Tryz.prog W 0 (fun _ => true) true n 145 [c7] = some (x7.1, x7.2) := hf 7 _ c7 rfl rfl
  obtain ⟨a0, k0, z0⟩ := (rd_string (N := N) Tryz.underlying9) n (by omega) [c0] x0.1 x0.2 h0 (fun m hm => hw m (by
   rw [DataW.weights, Tryz.underlying147]
   show m ∈ DataW.weightsEach Tryz.prog [9, 4, 4, 4, 2, 2, 144, 145] [x0.1, x1.1, x2.1, x3.1, x4.1, x5.1, x6.1, x7.1]
   simp only [DataW.weightsEach, List.append_nil, List.mem_append]
   simp [hm]))
  obtain ⟨a1, k1, z1⟩ := (rd_bool (N := N) Tryz.underlying4) n (by omega) [c1] x1.1 x1.2 h1 (fun m hm => hw m (by
   rw [DataW.weights, Tryz.underlying147]
   show m ∈ DataW.weightsEach Tryz.prog [9, 4, 4, 4, 2, 2, 144, 145] [x0.1, x1.1, x2.1, x3.1, x4.1, x5.1, x6.1, x7.1]
   simp only [DataW.weightsEach, List.append_nil, List.mem_append]
   simp [hm]))
  obtain ⟨a2, k2, z2⟩ := (rd_bool (N := N) Tryz.underlying4) n (by omega) [c2] x2.1 x2.2 h2 (fun m hm => hw m (by
   rw [DataW.weights, Tryz.underlying147]
   show m ∈ DataW.weightsEach Tryz.prog [9, 4, 4, 4, 2, 2, 144, 145] [x0.1, x1.1, x2.1, x3.1, x4.1, x5.1, x6.1, x7.1]
   simp only [DataW.weightsEach, List.append_nil, List.mem_append]
   simp [hm]))
  obtain ⟨a3, k3, z3⟩ := (rd_bool (N := N) Tryz.underlying4) n (by omega) [c3] x3.1 x3.2 h3 (fun m hm => hw m (by
   rw [DataW.weights, Tryz.underlying147]
   show m ∈ DataW.weightsEach Tryz.prog [9, 4, 4, 4, 2, 2, 144, 145] [x0.1, x1.1, x2.1, x3.1, x4.1, x5.1, x6.1, x7.1]
   simp only [DataW.weightsEach, List.append_nil, List.mem_append]
   simp [hm]))
  obtain ⟨a4, k4, z4⟩ := (rd_int (N := N) Tryz.underlying2) n (by omega) [c4] x4.1 x4.2 h4 (fun m hm => hw m (by
   rw [DataW.weights, Tryz.underlying147]
   show m ∈ DataW.weightsEach Tryz.prog [9, 4, 4, 4, 2, 2, 144, 145] [x0.1, x1.1, x2.1, x3.1, x4.1, x5.1, x6.1, x7.1]
   simp only [DataW.weightsEach, List.append_nil, List.mem_append]
   simp [hm]))
  obtain ⟨a5, k5, z5⟩ := (rd_int (N := N) Tryz.underlying2) n (by omega) [c5] x5.1 x5.2 h5 (fun m hm => hw m (by
   rw [DataW.weights, Tryz.underlying147]
   show m ∈ DataW.weightsEach Tryz.prog [9, 4, 4, 4, 2, 2, 144, 145] [x0.1, x1.1, x2.1, x3.1, x4.1, x5.1, x6.1, x7.1]
   simp only [DataW.weightsEach, List.append_nil, List.mem_append]
   simp [hm]))
  obtain ⟨a6, k6, z6⟩ := (rd_text (N := N)) n (by omega) [c6] x6.1 x6.2 h6 (fun m hm => hw m (by
   rw [DataW.weights, Tryz.underlying147]
   show m ∈ DataW.weightsEach Tryz.prog [9, 4, 4, 4, 2, 2, 144, 145] [x0.1, x1.1, x2.1, x3.1, x4.1, x5.1, x6.1, x7.1]
   simp only [DataW.weightsEach, List.append_nil, List.mem_append]
   simp [hm]))
  obtain ⟨a7, k7, z7⟩ := (rd_slice (e' := 158) (N := N) (K := kPa) Tryz.underlying145 (by kernel_rfl) (by kernel_rfl) rd_kPa) n (by omega) [c7] x7.1 x7.2 h7 (fun m hm => hw m (by
   rw [DataW.weights, Tryz.underlying147]
   show m ∈ DataW.weightsEach Tryz.prog [9, 4, 4, 4, 2, 2, 144, 145] [x0.1, x1.1, x2.1, x3.1, x4.1, x5.1, x6.1, x7.1]
   simp only [DataW.weightsEach, List.append_nil, List.mem_append]
   simp [hm]))
  exact ⟨⟨a0, a1, a2, a3, a4, a5, a6, a7⟩, ⟨[c0], _, rfl, k0, ⟨[c1], _, rfl, k1, ⟨[c2], _, rfl, k2, ⟨[c3], _, rfl, k3, ⟨[c4], _, rfl, k4, ⟨[c5], _, rfl, k5, ⟨[c6], _, rfl, k6, k7⟩⟩⟩⟩⟩⟩⟩, trivial⟩
theorem rd_36s (ih : Rd enc W N (Kd.upto F36 3 [9, 36, 75, 151] N) 36 (AllC reachC)) : Rd enc W (N + 1) (Kd.upto F36 3 [9, 36, 75, 151] (N + 1)) 36 (AllC reachC) := by
 intro fuel hN cs d p hd hw
 obtain ⟨n, xs, rfl, rfl, hcl, hxl, hf⟩ := struct_cells Tryz.underlying36 (by kernel_rfl) (by kernel_rfl) hd
 match cs, hcl, xs, hxl with
 | [c0, c1, c2], _, [x0, x1, x2], _ =>
  have h0 : DataW.trod enc Tryz.prog W 0 (fun _ => true) true n 9 [c0] = some (x0.1, x0.2) := hf 0 _ c0 rfl rfl
  have h1 : DataW.trod enc Tryz.prog W 0 (fun _ => true) true n 33 [c1] = some (x1.1, x1.2) := hf 1 _ c1 rfl rfl
  have h2 : DataW.trod enc Tryz.prog W 0 (fun _ => true) true n 34 [c2] = some (x2.1, x2.2) := hf 2 _ c2 rfl rfl
  obtain ⟨a0, k0, z0⟩ := (rd_string (N := N) Tryz.underlying9) n (by omega) [c0] x0.1 x0.2 h0 (fun m hm => hw m (by
   rw [DataW.weights, Tryz.underlying36]
   show m ∈ DataW.weightsEach Tryz.prog [9, 33, 34] [x0.1, x1.1, x2.1]
   simp only [DataW.weightsEach, List.append_nil, List.mem_append]
   simp [hm]))
  obtain ⟨a1, k1, z1⟩ := (rd_slice (e' := 75) (N := N) (K := k75) Tryz.underlying33 (by kernel_rfl) (by kernel_rfl) rd_75) n (by omega) [c1] x1.1 x1.2 h1 (fun m hm => hw m (by
   rw [DataW.weights, Tryz.underlying36]
   show m ∈ DataW.weightsEach Tryz.prog [9, 33, 34] [x0.1, x1.1, x2.1]
   simp only [DataW.weightsEach, List.append_nil, List.mem_append]
   simp [hm]))
  obtain ⟨a2, k2, z2⟩ := (rd_slice (e' := 36) (N := N) (K := (Kd.upto F36 3 [9, 36, 75, 151] N)) Tryz.underlying34 (by rw [sz36]; kernel_rfl) (by kernel_rfl) ih) n (by omega) [c2] x2.1 x2.2 h2 (fun m hm => hw m (by
   rw [DataW.weights, Tryz.underlying36]
   show m ∈ DataW.weightsEach Tryz.prog [9, 33, 34] [x0.1, x1.1, x2.1]
   simp only [DataW.weightsEach, List.append_nil, List.mem_append]
   simp [hm]))
  exact ⟨⟨a0, a1, a2⟩, ⟨[c0], _, rfl, k0, ⟨[c1], _, rfl, k1, k2⟩⟩, AllC.mk _ ⟨z0, z1.1, z1.2⟩ z2.2⟩
theorem rd_kCos (ih : Rd enc W N (Kd.upto FKCo 8 [42, 147, 158] N) 42 (fun _ => True)) : Rd enc W (N + 1) (Kd.upto FKCo 8 [42, 147, 158] (N + 1)) 42 (fun _ => True) := by
 intro fuel hN cs d p hd hw
 obtain ⟨n, xs, rfl, rfl, hcl, hxl, hf⟩ := struct_cells Tryz.underlying42 (by kernel_rfl) (by kernel_rfl) hd
 match cs, hcl, xs, hxl with
 | [c0, c1, c2, c3, c4, c5, c6, c7], _, [x0, x1, x2, x3, x4, x5, x6, x7], _ =>
  have h0 : DataW.trod enc Tryz.prog W 0 (fun _ => true) true n 9 [c0] = some (x0.1, x0.2) := hf 0 _ c0 rfl rfl
  have h1 : DataW.trod enc Tryz.prog W 0 (fun _ => true) true n 4 [c1] = some (x1.1, x1.2) := hf 1 _ c1 rfl rfl
  have h2 : DataW.trod enc Tryz.prog W 0 (fun _ => true) true n 4 [c2] = some (x2.1, x2.2) := hf 2 _ c2 rfl rfl
  have h3 : DataW.trod enc Tryz.prog W 0 (fun _ => true) true n 4 [c3] = some (x3.1, x3.2) := hf 3 _ c3 rfl rfl
  have h4 : DataW.trod enc Tryz.prog W 0 (fun _ => true) true n 2 [c4] = some (x4.1, x4.2) := hf 4 _ c4 rfl rfl
  have h5 : DataW.trod enc Tryz.prog W 0 (fun _ => true) true n 2 [c5] = some (x5.1, x5.2) := hf 5 _ c5 rfl rfl
  have h6 : DataW.trod enc Tryz.prog W 0 (fun _ => true) true n 39 [c6] = some (x6.1, x6.2) := hf 6 _ c6 rfl rfl
  have h7 : DataW.trod enc Tryz.prog W 0 (fun _ => true) true n 40 [c7] = some (x7.1, x7.2) := hf 7 _ c7 rfl rfl
  obtain ⟨a0, k0, z0⟩ := (rd_string (N := N) Tryz.underlying9) n (by omega) [c0] x0.1 x0.2 h0 (fun m hm => hw m (by
   rw [DataW.weights, Tryz.underlying42]
   show m ∈ DataW.weightsEach Tryz.prog [9, 4, 4, 4, 2, 2, 39, 40] [x0.1, x1.1, x2.1, x3.1, x4.1, x5.1, x6.1, x7.1]
   simp only [DataW.weightsEach, List.append_nil, List.mem_append]
   simp [hm]))
  obtain ⟨a1, k1, z1⟩ := (rd_bool (N := N) Tryz.underlying4) n (by omega) [c1] x1.1 x1.2 h1 (fun m hm => hw m (by
   rw [DataW.weights, Tryz.underlying42]
   show m ∈ DataW.weightsEach Tryz.prog [9, 4, 4, 4, 2, 2, 39, 40] [x0.1, x1.1, x2.1, x3.1, x4.1, x5.1, x6.1, x7.1]
   simp only [DataW.weightsEach, List.append_nil, List.mem_append]
   simp [hm]))
  obtain ⟨a2, k2, z2⟩ := (rd_bool (N := N) Tryz.underlying4) n (by omega) [c2] x2.1 x2.2 h2 (fun m hm => hw m (by
   rw [DataW.weights, Tryz.underlying42]
   show m ∈ DataW.weightsEach Tryz.prog [9, 4, 4, 4, 2, 2, 39, 40] [x0.1, x1.1, x2.1, x3.1, x4.1, x5.1, x6.1, x7.1]
   simp only [DataW.weightsEach, List.append_nil, List.mem_append]
   simp [hm]))
  obtain ⟨a3, k3, z3⟩ := (rd_bool (N := N) Tryz.underlying4) n (by omega) [c3] x3.1 x3.2 h3 (fun m hm => hw m (by
   rw [DataW.weights, Tryz.underlying42]
   show m ∈ DataW.weightsEach Tryz.prog [9, 4, 4, 4, 2, 2, 39, 40] [x0.1, x1.1, x2.1, x3.1, x4.1, x5.1, x6.1, x7.1]
   simp only [DataW.weightsEach, List.append_nil, List.mem_append]
   simp [hm]))
  obtain ⟨a4, k4, z4⟩ := (rd_int (N := N) Tryz.underlying2) n (by omega) [c4] x4.1 x4.2 h4 (fun m hm => hw m (by
   rw [DataW.weights, Tryz.underlying42]
   show m ∈ DataW.weightsEach Tryz.prog [9, 4, 4, 4, 2, 2, 39, 40] [x0.1, x1.1, x2.1, x3.1, x4.1, x5.1, x6.1, x7.1]
   simp only [DataW.weightsEach, List.append_nil, List.mem_append]
   simp [hm]))
  obtain ⟨a5, k5, z5⟩ := (rd_int (N := N) Tryz.underlying2) n (by omega) [c5] x5.1 x5.2 h5 (fun m hm => hw m (by
   rw [DataW.weights, Tryz.underlying42]
   show m ∈ DataW.weightsEach Tryz.prog [9, 4, 4, 4, 2, 2, 39, 40] [x0.1, x1.1, x2.1, x3.1, x4.1, x5.1, x6.1, x7.1]
   simp only [DataW.weightsEach, List.append_nil, List.mem_append]
   simp [hm]))
  obtain ⟨a6, k6, z6⟩ := (rd_slice (e' := 147) (N := N) (K := kPr) Tryz.underlying39 (by kernel_rfl) (by kernel_rfl) rd_kPr) n (by omega) [c6] x6.1 x6.2 h6 (fun m hm => hw m (by
   rw [DataW.weights, Tryz.underlying42]
   show m ∈ DataW.weightsEach Tryz.prog [9, 4, 4, 4, 2, 2, 39, 40] [x0.1, x1.1, x2.1, x3.1, x4.1, x5.1, x6.1, x7.1]
   simp only [DataW.weightsEach, List.append_nil, List.mem_append]
   simp [hm]))
  obtain ⟨a7, k7, z7⟩ := (rd_slice (e' := 42) (N := N) (K := (Kd.upto FKCo 8 [42, 147, 158] N)) Tryz.underlying40 (by rw [szKCo]; kernel_rfl) (by kernel_rfl) ih) n (by omega) [c7] x7.1 x7.2 h7 (fun m hm => hw m (by
   rw [DataW.weights, Tryz.underlying42]
   show m ∈ DataW.weightsEach Tryz.prog [9, 4, 4, 4, 2, 2, 39, 40] [x0.1, x1.1, x2.1, x3.1, x4.1, x5.1, x6.1, x7.1]
   simp only [DataW.weightsEach, List.append_nil, List.mem_append]
   simp [hm]))
  exact ⟨⟨a0, a1, a2, a3, a4, a5, a6, a7⟩, ⟨[c0], _, rfl, k0, ⟨[c1], _, rfl, k1, ⟨[c2], _, rfl, k2, ⟨[c3], _, rfl, k3, ⟨[c4], _, rfl, k4, ⟨[c5], _, rfl, k5, ⟨[c6], _, rfl, k6, k7⟩⟩⟩⟩⟩⟩⟩, trivial⟩
theorem rd_36 : ∀ N, Rd enc W N (Kd.upto F36 3 [9, 36, 75, 151] N) 36 (AllC reachC) := by
 intro N
 induction N with
 | zero =>
  intro fuel hN cs d p hd
  obtain rfl : fuel = 0 := by omega
  simp [DataW.trod] at hd
 | succ N ih => exact rd_36s ih
theorem rd_kCo : ∀ N, Rd enc W N (Kd.upto FKCo 8 [42, 147, 158] N) 42 (fun _ => True) := by
 intro N
 induction N with
 | zero =>
  intro fuel hN cs d p hd
  obtain rfl : fuel = 0 := by omega
  simp [DataW.trod] at hd
 | succ N ih => exact rd_kCos ih
theorem read_calendar {fuel : Nat} {cs : List Value} {d : DataW H} {p : List MemPlace} (h : DataW.trod enc Tryz.prog W 0 (fun _ => true) true fuel 36 cs = some (d, p)) (hw : ∀ n ∈ d.weights Tryz.prog 36, n ≤ reachBytes) :
  ∃ (x : S36) (A B : Option Addr) (c c2 : Nat), cs = [.string x.f0, .slice A x.f1.length c, .slice B x.f2.length c2] ∧ k75.C W A x.f1.length x.f1 ∧ k36.C W B x.f2.length x.f2 ∧ AllC reachC x := by
 obtain ⟨x, hK, hZ⟩ := rd_36 fuel fuel (Nat.le_refl _) cs d p h hw
 obtain ⟨A, c, B, c2, h1, -, h2, -, h3⟩ := k36_open ⟨fuel, hK⟩
 exact ⟨x, A, B, c, c2, h1, h2, h3, hZ⟩
theorem read_filter {fuel : Nat} {cs : List Value} {d : DataW H} {p : List MemPlace} (h : DataW.trod enc Tryz.prog W 0 (fun _ => true) true fuel 42 cs = some (d, p)) (hw : ∀ n ∈ d.weights Tryz.prog 42, n ≤ reachBytes) :
  ∃ (x : KCo) (A B : Option Addr) (c c2 : Nat), cs = [.string x.name, .bool x.absent, .bool x.has, .bool x.hasEnd, .int .i64 x.st, .int .i64 x.en, .slice A x.props.length c, .slice B x.comps.length c2] ∧ kPr.C W A x.props.length x.props ∧ kCo.C W B x.comps.length x.comps := by
 obtain ⟨x, hK, -⟩ := rd_kCo fuel fuel (Nat.le_refl _) cs d p h hw
 obtain ⟨A, c, B, c2, h1, -, h2, -, h3⟩ := kCo_open ⟨fuel, hK⟩
 exact ⟨x, A, B, c, c2, h1, h2, h3⟩
end
end Go.Proofs.YtcllaplddebilaaGreatDoor
end

/- laws.FnKMatch: a part of the proof: SeenT. -/
import Derived.Test.YtcllaplddebilaaGreatDoorK18
set_option maxRecDepth 1000000
set_option maxHeartbeats 64000000
set_option linter.unusedVariables false
set_option linter.unusedSimpArgs false
namespace Go.Proofs.YtcllaplddebilaaGreatDoor
open Go.RowKit Go.Sort
attribute [local go_sem] cell?_grow frozen?_grow cell?_redrawn frozen?_redrawn size_redrawn size_grow ba_get ba_extract
attribute [local simp] size_redrawn
open Go.Lib Go.Proofs.YtcllaplddebilaaGreatDoorW.PrintWords Go.Proofs.YtcllaplddebilaaGreatDoorW.PrintLast Go.Proofs.YtcllaplddebilaaGreatDoorW.PrintMore PFnKMatch
def SeenPost (w : World) (O : Nat) (o : Bool) (R : Bool → Prop) (e : Ending) (w' : World) : Prop := ∃ o' v : Bool, e = .returned (.bool v) ∧ w'.heap[O]? = some (.cells #[.bool o'] 85) ∧ Only [O] w w' ∧ (o' = false → o = false ∧ R v)
theorem seenText (w : World) (O tb tof : Nat) (o : Bool) (t : ByteArray × Bool) (s : ByteArray) (hO : w.heap[O]? = some (.cells #[.bool o] 85)) (ht0 : w.cell? ⟨tb, tof, none⟩ = some (.string t.1)) (ht1 : w.cell? ⟨tb, tof + 1, none⟩ = some (.bool t.2)) (hne : tb ≠ O) (hs : s.size ≤ 100000) (hts : t.1.size ≤ 100000) :
  Calls Tryz.prog 109 #[.pointer (some ⟨O, 0, none⟩), .pointer (some ⟨tb, tof, none⟩), .string s] w (SeenPost w O o (fun v => v = (holdB s t.1 != t.2))) := by
 obtain ⟨h0, hh0⟩ : ∃ b, holdB s t.1 = b := ⟨_, rfl⟩
 obtain ⟨h1, hh1⟩ : ∃ b, holdB (upper s) (upper t.1) = b := ⟨_, rfl⟩
 have hus : (upper s).size = s.size := by have := upper_len s; rw [Array.length_toList] at this; exact this
 have hut : (upper t.1).size = t.1.size := by have := upper_len t.1; rw [Array.length_toList] at this; exact this
 have hc0 : ∀ w, Calls Tryz.prog 148 #[.string s, .string t.1] w fun e w' => e = .returned (.bool h0) ∧ Below w.heap.size w w' := fun w => by rw [← hh0]; exact holds_is s t.1 w (by omega) (by omega)
 have hc1 : ∀ w, Calls Tryz.prog 148 #[.string (upper s), .string (upper t.1)] w fun e w' => e = .returned (.bool h1) ∧ Below w.heap.size w w' := fun w => by rw [← hh1]; exact holds_is (upper s) (upper t.1) w (by omega) (by omega)
 obtain ⟨a1, ha1⟩ := ascii_ex s (by omega)
 obtain ⟨a2, ha2⟩ := ascii_ex t.1 (by omega)
 rw [hh0]
 clear hh0 hh1 hus hut
 go_enter Tryz.func109, Tryz.ntmps109
 go_wp2_with fail
 refine (hc0 _).mono ?_
 rintro _ w1 ⟨rfl, hb⟩
 have HC := hI (below_blk hb hO)
 have HT := hI (And.intro (pw_cell_below hb ht0) (pw_cell_below hb ht1))
 have HB := hI hb
 clear hb hO ht0 ht1 hc0
 go_wp2_with fail
 cases o with
 | true =>
  refine start_ (n := 33) (S := fun W => W.cell? ⟨O, 0, none⟩ = some (.bool true) ∧ W.cell? ⟨tb, tof, none⟩ = some (.string t.1)) (ds := [32]) (bM 33 0) (by kernel_rfl) rfl (by kernel_rfl) ⟨(cell_blk HC.out 0).trans rfl, HT.out.1⟩ (fun hHeld => ?_)
  have HC := hI (show w1.drew.heap[O]? = some (.cells #[.bool true] 85) from HC.out)
  have HT := hI (show w1.drew.cell? ⟨tb, tof, none⟩ = some (.string t.1) ∧ w1.drew.cell? ⟨tb, tof + 1, none⟩ = some (.bool t.2) from HT.out)
  have HB := hI (show Below w.heap.size w w1.drew from HB.out.drew)
  generalize w1.drew = wk at HC HT HB hHeld ⊢
  refine pU 0 33 1 (some 14) rfl rfl (by kernel_rfl) rfl (fun _ => by go_simp; with_reducible rfl) (by simp only [sW]; rfl) ?_
  refine pU 1 33 3 (some 15) rfl rfl (by kernel_rfl) rfl (fun _ => by go_simp; with_reducible rfl) (by simp only [sW]; rfl) ?_
  refine pU 2 33 7 (some 16) rfl rfl (by kernel_rfl) rfl (fun _ => by go_simp; with_reducible rfl) (by simp only [sW]; rfl) ?_
  refine pU 3 33 15 (some 17) rfl rfl (by kernel_rfl) rfl (fun _ => by go_simp; with_reducible rfl) (by simp only [sW]; rfl) ?_
  refine tA 4 33 31 (some 18) rfl rfl (by kernel_rfl) rfl (fun _ ⟨s0, s1⟩ => by go_simp; with_reducible rfl) hHeld (by simp only [sW]; rfl) ?_
  refine pU 5 33 63 (some 19) rfl rfl (by kernel_rfl) rfl (fun _ => by go_simp; with_reducible rfl) (by simp only [sW]; rfl) ?_
  refine pO 6 33 127 (some 20) rfl rfl (by kernel_rfl) rfl (by simp only [sW]; rfl) ?_
  refine pO 7 33 255 (some 21) rfl rfl (by kernel_rfl) rfl (by simp only [sW]; rfl) ?_
  refine pO 8 33 511 (some 22) rfl rfl (by kernel_rfl) rfl (by simp only [sW]; rfl) ?_
  refine pO 9 33 1023 (some 23) rfl rfl (by kernel_rfl) rfl (by simp only [sW]; rfl) ?_
  refine pO 10 33 2047 (some 24) rfl rfl (by kernel_rfl) rfl (by simp only [sW]; rfl) ?_
  refine pO 11 33 4095 (some 25) rfl rfl (by kernel_rfl) rfl (by simp only [sW]; rfl) ?_
  refine pO 12 33 8191 (some 26) rfl rfl (by kernel_rfl) rfl (by simp only [sW]; rfl) ?_
  refine pO 13 33 16383 (some 27) rfl rfl (by kernel_rfl) rfl (by simp only [sW]; rfl) ?_
  refine pO 14 33 32767 (some 28) rfl rfl (by kernel_rfl) rfl (by simp only [sW]; rfl) ?_
  refine pO 15 33 65535 (some 29) rfl rfl (by kernel_rfl) rfl (by simp only [sW]; rfl) ?_
  refine pU 16 33 131071 (some 30) rfl rfl (by kernel_rfl) rfl (fun _ => by go_simp; with_reducible rfl) (by simp only [sW]; rfl) ?_
  refine pU 17 33 262143 (some 31) rfl rfl (by kernel_rfl) rfl (fun _ => by go_simp; with_reducible rfl) (by simp only [sW]; rfl) ?_
  refine pO 18 33 524287 (some 32) rfl rfl (by kernel_rfl) rfl (by simp only [sW]; rfl) ?_
  refine pO 19 33 1048575 (some 33) rfl rfl (by kernel_rfl) rfl (by simp only [sW]; rfl) ?_
  refine pO 20 33 2097151 (some 34) rfl rfl (by kernel_rfl) rfl (by simp only [sW]; rfl) ?_
  refine pU 21 33 4194303 (some 35) rfl rfl (by kernel_rfl) rfl (fun _ => by go_simp; with_reducible rfl) (by simp only [sW]; rfl) ?_
  refine pU 22 33 8388607 (some 36) rfl rfl (by kernel_rfl) rfl (fun _ => by go_simp; with_reducible rfl) (by simp only [sW]; rfl) ?_
  refine pO 23 33 16777215 (some 37) rfl rfl (by kernel_rfl) rfl (by simp only [sW]; rfl) ?_
  refine pO 24 33 33554431 (some 38) rfl rfl (by kernel_rfl) rfl (by simp only [sW]; rfl) ?_
  refine pO 25 33 67108863 (some 39) rfl rfl (by kernel_rfl) rfl (by simp only [sW]; rfl) ?_
  refine pO 26 33 134217727 (some 40) rfl rfl (by kernel_rfl) rfl (by simp only [sW]; rfl) ?_
  refine pO 27 33 268435455 (some 41) rfl rfl (by kernel_rfl) rfl (by simp only [sW]; rfl) ?_
  refine pO 28 33 536870911 (some 42) rfl rfl (by kernel_rfl) rfl (by simp only [sW]; rfl) ?_
  refine pU 29 33 1073741823 (some 43) rfl rfl (by kernel_rfl) rfl (fun _ => by go_simp; with_reducible rfl) (by simp only [sW]; rfl) ?_
  refine pU 30 33 2147483647 (some 44) rfl rfl (by kernel_rfl) rfl (fun _ => by go_simp; with_reducible rfl) (by simp only [sW]; rfl) ?_
  refine pU 31 33 4294967295 (some 45) rfl rfl (by kernel_rfl) rfl (fun _ => by go_simp; with_reducible rfl) (by simp only [sW]; rfl) ?_
  refine lA 32 33 8589934591 none rfl rfl (by kernel_rfl) (by decide) (fun K hK => ?_)
  have cO := (cell_blk HC.out 0).trans rfl
  have fO := frozen_blk HC.out 0 (by omega)
  refine skip_ (w1 := ?_) (by rfl) rfl ?_ ?_; rotate_left; (go_simp; first | rfl | done)
  refine hK.out _ _ ?_
  clear hK K
  refine done_ (by kernel_rfl) ?_
  have hC2 := set_blk HC.out 0 (.bool true)
  have hO2 : Only [O] w (wk.setCell ⟨O, 0, none⟩ (.bool true)) := (Only.of_below HB.out).setCell (p := ⟨O, 0, none⟩) (by simp) (.bool true)
  have t2 : (wk.setCell ⟨O, 0, none⟩ (.bool true)).cell? ⟨tb, tof + 1, none⟩ = some (.bool t.2) := by rw [World.cell?_setCell_other _ _ _ _ (by simp <;> omega)]; exact HT.out.2
  generalize hwz : wk.setCell _ _ = wz at hC2 hO2 t2 ⊢
  have HC2 := hI hC2
  have HO2 := hI hO2
  clear hC2 hO2 hwz HB HC HT cO fO
  go_wp2
  go_ret
  exact ⟨true, _, rfl, HC2.out, HO2.out, fun h => nomatch h⟩
 | false =>
  by_cases heq : h0 = h1
  ·subst heq
   cases a1 with
   | false =>
    cases h0
    all_goals (
     refine start_ (n := 33) (S := fun W => W.cell? ⟨O, 0, none⟩ = some (.bool false) ∧ W.cell? ⟨tb, tof, none⟩ = some (.string t.1)) (ds := [32]) (bM 33 0) (by kernel_rfl) rfl (by kernel_rfl) ⟨(cell_blk HC.out 0).trans rfl, HT.out.1⟩ (fun hHeld => ?_)
     have HC := hI (show w1.drew.heap[O]? = some (.cells #[.bool false] 85) from HC.out)
     have HT := hI (show w1.drew.cell? ⟨tb, tof, none⟩ = some (.string t.1) ∧ w1.drew.cell? ⟨tb, tof + 1, none⟩ = some (.bool t.2) from HT.out)
     have HB := hI (show Below w.heap.size w w1.drew from HB.out.drew)
     generalize w1.drew = wk at HC HT HB hHeld ⊢
     refine pU 0 33 1 (some 14) rfl rfl (by kernel_rfl) rfl (fun _ => by go_simp; with_reducible rfl) (by simp only [sW]; rfl) ?_
     refine pU 1 33 3 (some 15) rfl rfl (by kernel_rfl) rfl (fun _ => by go_simp; with_reducible rfl) (by simp only [sW]; rfl) ?_
     refine pU 2 33 7 (some 16) rfl rfl (by kernel_rfl) rfl (fun _ => by go_simp; with_reducible rfl) (by simp only [sW]; rfl) ?_
     refine pU 3 33 15 (some 17) rfl rfl (by kernel_rfl) rfl (fun _ => by go_simp; with_reducible rfl) (by simp only [sW]; rfl) ?_
     refine tA 4 33 31 (some 18) rfl rfl (by kernel_rfl) rfl (fun _ ⟨s0, s1⟩ => by go_simp; with_reducible rfl) hHeld (by simp only [sW]; rfl) ?_
     refine pU 5 33 63 (some 19) rfl rfl (by kernel_rfl) rfl (fun _ => by go_simp; with_reducible rfl) (by simp only [sW]; rfl) ?_
     refine pU 6 33 127 (some 20) rfl rfl (by kernel_rfl) rfl (fun _ => by go_simp; with_reducible rfl) (by simp only [sW]; rfl) ?_
     refine pU 7 33 255 (some 21) rfl rfl (by kernel_rfl) rfl (fun _ => by go_simp; with_reducible rfl) (by simp only [sW]; rfl) ?_
     refine pU 9 33 767 (some 23) rfl rfl (by kernel_rfl) rfl (fun _ => by go_simp; with_reducible rfl) (by simp only [sW]; rfl) ?_
     refine pU 10 33 1791 (some 24) rfl rfl (by kernel_rfl) rfl (fun _ => by go_simp; with_reducible rfl) (by simp only [sW]; rfl) ?_
     refine pU 11 33 3839 (some 25) rfl rfl (by kernel_rfl) rfl (fun _ => by go_simp; with_reducible rfl) (by simp only [sW]; rfl) ?_
     refine tA 12 33 7935 (some 26) rfl rfl (by kernel_rfl) rfl (fun _ ⟨s0, s1⟩ => by go_simp; with_reducible rfl) hHeld (by simp only [sW]; rfl) ?_
     refine oN 8 33 8191 (some 22) rfl rfl (by kernel_rfl) (by decide) (fun K hK => ?_)
     refine goes_ Tryz.func65 (by kernel_rfl) rfl #[.string s] (by rfl) rfl rfl (by (try simp only [List.map_toArray, List.map_cons, List.map_nil]); first | done | rfl | (simp only [List.length_drop, List.length_take]; rfl)) ?_; refine (upper_spec s _ (by omega)).mono ?_
     rintro _ wk ⟨rfl, hb⟩
     refine ⟨_, rfl, ?_⟩
     have HC := hI (below_blk hb HC.out)
     have HT := hI (And.intro (pw_cell_below hb HT.out.1) (pw_cell_below hb HT.out.2))
     have HB := hI (HB.out.trans (hb.mono HB.out.size))
     clear hb
     refine hK.out _ _ ⟨(cell_blk HC.out 0).trans rfl, HT.out.1⟩ (fun hHeld => ?_)
     clear hK K
     refine norm_ (by show Act.put _ (some 22) _ = _; simp only [sW]; rfl) ?_
     refine oN 13 33 16383 (some 27) rfl rfl (by kernel_rfl) (by decide) (fun K hK => ?_)
     refine goes_ Tryz.func65 (by kernel_rfl) rfl #[.string t.1] (by rfl) rfl rfl (by (try simp only [List.map_toArray, List.map_cons, List.map_nil]); first | done | rfl | (simp only [List.length_drop, List.length_take]; rfl)) ?_; refine (upper_spec t.1 _ (by omega)).mono ?_
     rintro _ wk ⟨rfl, hb⟩
     refine ⟨_, rfl, ?_⟩
     have HC := hI (below_blk hb HC.out)
     have HT := hI (And.intro (pw_cell_below hb HT.out.1) (pw_cell_below hb HT.out.2))
     have HB := hI (HB.out.trans (hb.mono HB.out.size))
     clear hb
     refine hK.out _ _ ⟨(cell_blk HC.out 0).trans rfl, HT.out.1⟩ (fun hHeld => ?_)
     clear hK K
     refine norm_ (by show Act.put _ (some 27) _ = _; simp only [sW]; rfl) ?_
     refine oN 14 33 32767 (some 28) rfl rfl (by kernel_rfl) (by decide) (fun K hK => ?_)
     refine goes_ Tryz.func148 (by kernel_rfl) rfl #[.string (upper s), .string (upper t.1)] (by rfl) rfl rfl (by (try simp only [List.map_toArray, List.map_cons, List.map_nil]); first | done | rfl | (simp only [List.length_drop, List.length_take]; rfl)) ?_; refine (hc1 _).mono ?_
     rintro _ wk ⟨rfl, hb⟩
     refine ⟨_, rfl, ?_⟩
     have HC := hI (below_blk hb HC.out)
     have HT := hI (And.intro (pw_cell_below hb HT.out.1) (pw_cell_below hb HT.out.2))
     have HB := hI (HB.out.trans (hb.mono HB.out.size))
     clear hb
     refine hK.out _ _ ⟨(cell_blk HC.out 0).trans rfl, HT.out.1⟩ (fun hHeld => ?_)
     clear hK K
     refine norm_ (by show Act.put _ (some 28) _ = _; simp only [sW]; rfl) ?_
     refine pU 15 33 65535 (some 29) rfl rfl (by kernel_rfl) rfl (fun _ => by go_simp; with_reducible rfl) (by simp only [sW]; rfl) ?_
     refine pU 16 33 131071 (some 30) rfl rfl (by kernel_rfl) rfl (fun _ => by go_simp; with_reducible rfl) (by simp only [sW]; rfl) ?_
     refine pU 17 33 262143 (some 31) rfl rfl (by kernel_rfl) rfl (fun _ => by go_simp; with_reducible rfl) (by simp only [sW]; rfl) ?_
     refine pU 18 33 524287 (some 32) rfl rfl (by kernel_rfl) rfl (fun _ => by go_simp; with_reducible rfl) (by simp only [sW]; rfl) ?_
     refine oN 19 33 1048575 (some 33) rfl rfl (by kernel_rfl) (by decide) (fun K hK => ?_)
     refine goes_ Tryz.func149 (by kernel_rfl) rfl #[.string s] (by rfl) rfl rfl (by (try simp only [List.map_toArray, List.map_cons, List.map_nil]); first | done | rfl | (simp only [List.length_drop, List.length_take]; rfl)) ?_; refine (ha1 _).mono ?_
     rintro _ wk ⟨rfl, hb⟩
     refine ⟨_, rfl, ?_⟩
     have HC := hI (below_blk hb HC.out)
     have HT := hI (And.intro (pw_cell_below hb HT.out.1) (pw_cell_below hb HT.out.2))
     have HB := hI (HB.out.trans (hb.mono HB.out.size))
     clear hb
     refine hK.out _ _ ⟨(cell_blk HC.out 0).trans rfl, HT.out.1⟩ (fun hHeld => ?_)
     clear hK K
     refine norm_ (by show Act.put _ (some 33) _ = _; simp only [sW]; rfl) ?_
     refine pU 20 33 2097151 (some 34) rfl rfl (by kernel_rfl) rfl (fun _ => by go_simp; with_reducible rfl) (by simp only [sW]; rfl) ?_
     refine pU 21 33 4194303 (some 35) rfl rfl (by kernel_rfl) rfl (fun _ => by go_simp; with_reducible rfl) (by simp only [sW]; rfl) ?_
     refine pU 22 33 8388607 (some 36) rfl rfl (by kernel_rfl) rfl (fun _ => by go_simp; with_reducible rfl) (by simp only [sW]; rfl) ?_
     refine pO 23 33 16777215 (some 37) rfl rfl (by kernel_rfl) rfl (by simp only [sW]; rfl) ?_
     refine pO 24 33 33554431 (some 38) rfl rfl (by kernel_rfl) rfl (by simp only [sW]; rfl) ?_
     refine pO 25 33 67108863 (some 39) rfl rfl (by kernel_rfl) rfl (by simp only [sW]; rfl) ?_
     refine pO 26 33 134217727 (some 40) rfl rfl (by kernel_rfl) rfl (by simp only [sW]; rfl) ?_
     refine pO 27 33 268435455 (some 41) rfl rfl (by kernel_rfl) rfl (by simp only [sW]; rfl) ?_
     refine pO 28 33 536870911 (some 42) rfl rfl (by kernel_rfl) rfl (by simp only [sW]; rfl) ?_
     refine pU 29 33 1073741823 (some 43) rfl rfl (by kernel_rfl) rfl (fun _ => by go_simp; with_reducible rfl) (by simp only [sW]; rfl) ?_
     refine pU 30 33 2147483647 (some 44) rfl rfl (by kernel_rfl) rfl (fun _ => by go_simp; with_reducible rfl) (by simp only [sW]; rfl) ?_
     refine pU 31 33 4294967295 (some 45) rfl rfl (by kernel_rfl) rfl (fun _ => by go_simp; with_reducible rfl) (by simp only [sW]; rfl) ?_
     refine lA 32 33 8589934591 none rfl rfl (by kernel_rfl) (by decide) (fun K hK => ?_)
     have cO := (cell_blk HC.out 0).trans rfl
     have fO := frozen_blk HC.out 0 (by omega)
     refine skip_ (w1 := ?_) (by rfl) rfl ?_ ?_; rotate_left; (go_simp; first | rfl | done)
     refine hK.out _ _ ?_
     clear hK K
     refine done_ (by kernel_rfl) ?_
     have hC2 := set_blk HC.out 0 (.bool true)
     have hO2 : Only [O] w (wk.setCell ⟨O, 0, none⟩ (.bool true)) := (Only.of_below HB.out).setCell (p := ⟨O, 0, none⟩) (by simp) (.bool true)
     have t2 : (wk.setCell ⟨O, 0, none⟩ (.bool true)).cell? ⟨tb, tof + 1, none⟩ = some (.bool t.2) := by rw [World.cell?_setCell_other _ _ _ _ (by simp <;> omega)]; exact HT.out.2
     generalize hwz : wk.setCell _ _ = wz at hC2 hO2 t2 ⊢
     have HC2 := hI hC2
     have HO2 := hI hO2
     clear hC2 hO2 hwz HB HC HT cO fO
     go_wp2
     go_ret
     exact ⟨true, _, rfl, HC2.out, HO2.out, fun h => nomatch h⟩)
   | true =>
    cases a2
    ·cases h0
     all_goals (
      refine start_ (n := 33) (S := fun W => W.cell? ⟨O, 0, none⟩ = some (.bool false) ∧ W.cell? ⟨tb, tof, none⟩ = some (.string t.1)) (ds := [32]) (bM 33 0) (by kernel_rfl) rfl (by kernel_rfl) ⟨(cell_blk HC.out 0).trans rfl, HT.out.1⟩ (fun hHeld => ?_)
      have HC := hI (show w1.drew.heap[O]? = some (.cells #[.bool false] 85) from HC.out)
      have HT := hI (show w1.drew.cell? ⟨tb, tof, none⟩ = some (.string t.1) ∧ w1.drew.cell? ⟨tb, tof + 1, none⟩ = some (.bool t.2) from HT.out)
      have HB := hI (show Below w.heap.size w w1.drew from HB.out.drew)
      generalize w1.drew = wk at HC HT HB hHeld ⊢
      refine pU 0 33 1 (some 14) rfl rfl (by kernel_rfl) rfl (fun _ => by go_simp; with_reducible rfl) (by simp only [sW]; rfl) ?_
      refine pU 1 33 3 (some 15) rfl rfl (by kernel_rfl) rfl (fun _ => by go_simp; with_reducible rfl) (by simp only [sW]; rfl) ?_
      refine pU 2 33 7 (some 16) rfl rfl (by kernel_rfl) rfl (fun _ => by go_simp; with_reducible rfl) (by simp only [sW]; rfl) ?_
      refine pU 3 33 15 (some 17) rfl rfl (by kernel_rfl) rfl (fun _ => by go_simp; with_reducible rfl) (by simp only [sW]; rfl) ?_
      refine tA 4 33 31 (some 18) rfl rfl (by kernel_rfl) rfl (fun _ ⟨s0, s1⟩ => by go_simp; with_reducible rfl) hHeld (by simp only [sW]; rfl) ?_
      refine pU 5 33 63 (some 19) rfl rfl (by kernel_rfl) rfl (fun _ => by go_simp; with_reducible rfl) (by simp only [sW]; rfl) ?_
      refine pU 6 33 127 (some 20) rfl rfl (by kernel_rfl) rfl (fun _ => by go_simp; with_reducible rfl) (by simp only [sW]; rfl) ?_
      refine pU 7 33 255 (some 21) rfl rfl (by kernel_rfl) rfl (fun _ => by go_simp; with_reducible rfl) (by simp only [sW]; rfl) ?_
      refine pU 9 33 767 (some 23) rfl rfl (by kernel_rfl) rfl (fun _ => by go_simp; with_reducible rfl) (by simp only [sW]; rfl) ?_
      refine pU 10 33 1791 (some 24) rfl rfl (by kernel_rfl) rfl (fun _ => by go_simp; with_reducible rfl) (by simp only [sW]; rfl) ?_
      refine pU 11 33 3839 (some 25) rfl rfl (by kernel_rfl) rfl (fun _ => by go_simp; with_reducible rfl) (by simp only [sW]; rfl) ?_
      refine tA 12 33 7935 (some 26) rfl rfl (by kernel_rfl) rfl (fun _ ⟨s0, s1⟩ => by go_simp; with_reducible rfl) hHeld (by simp only [sW]; rfl) ?_
      refine oN 8 33 8191 (some 22) rfl rfl (by kernel_rfl) (by decide) (fun K hK => ?_)
      refine goes_ Tryz.func65 (by kernel_rfl) rfl #[.string s] (by rfl) rfl rfl (by (try simp only [List.map_toArray, List.map_cons, List.map_nil]); first | done | rfl | (simp only [List.length_drop, List.length_take]; rfl)) ?_; refine (upper_spec s _ (by omega)).mono ?_
      rintro _ wk ⟨rfl, hb⟩
      refine ⟨_, rfl, ?_⟩
      have HC := hI (below_blk hb HC.out)
      have HT := hI (And.intro (pw_cell_below hb HT.out.1) (pw_cell_below hb HT.out.2))
      have HB := hI (HB.out.trans (hb.mono HB.out.size))
      clear hb
      refine hK.out _ _ ⟨(cell_blk HC.out 0).trans rfl, HT.out.1⟩ (fun hHeld => ?_)
      clear hK K
      refine norm_ (by show Act.put _ (some 22) _ = _; simp only [sW]; rfl) ?_
      refine oN 13 33 16383 (some 27) rfl rfl (by kernel_rfl) (by decide) (fun K hK => ?_)
      refine goes_ Tryz.func65 (by kernel_rfl) rfl #[.string t.1] (by rfl) rfl rfl (by (try simp only [List.map_toArray, List.map_cons, List.map_nil]); first | done | rfl | (simp only [List.length_drop, List.length_take]; rfl)) ?_; refine (upper_spec t.1 _ (by omega)).mono ?_
      rintro _ wk ⟨rfl, hb⟩
      refine ⟨_, rfl, ?_⟩
      have HC := hI (below_blk hb HC.out)
      have HT := hI (And.intro (pw_cell_below hb HT.out.1) (pw_cell_below hb HT.out.2))
      have HB := hI (HB.out.trans (hb.mono HB.out.size))
      clear hb
      refine hK.out _ _ ⟨(cell_blk HC.out 0).trans rfl, HT.out.1⟩ (fun hHeld => ?_)
      clear hK K
      refine norm_ (by show Act.put _ (some 27) _ = _; simp only [sW]; rfl) ?_
      refine oN 14 33 32767 (some 28) rfl rfl (by kernel_rfl) (by decide) (fun K hK => ?_)
      refine goes_ Tryz.func148 (by kernel_rfl) rfl #[.string (upper s), .string (upper t.1)] (by rfl) rfl rfl (by (try simp only [List.map_toArray, List.map_cons, List.map_nil]); first | done | rfl | (simp only [List.length_drop, List.length_take]; rfl)) ?_; refine (hc1 _).mono ?_
      rintro _ wk ⟨rfl, hb⟩
      refine ⟨_, rfl, ?_⟩
      have HC := hI (below_blk hb HC.out)
      have HT := hI (And.intro (pw_cell_below hb HT.out.1) (pw_cell_below hb HT.out.2))
      have HB := hI (HB.out.trans (hb.mono HB.out.size))
      clear hb
      refine hK.out _ _ ⟨(cell_blk HC.out 0).trans rfl, HT.out.1⟩ (fun hHeld => ?_)
      clear hK K
      refine norm_ (by show Act.put _ (some 28) _ = _; simp only [sW]; rfl) ?_
      refine pU 15 33 65535 (some 29) rfl rfl (by kernel_rfl) rfl (fun _ => by go_simp; with_reducible rfl) (by simp only [sW]; rfl) ?_
      refine pU 16 33 131071 (some 30) rfl rfl (by kernel_rfl) rfl (fun _ => by go_simp; with_reducible rfl) (by simp only [sW]; rfl) ?_
      refine pU 17 33 262143 (some 31) rfl rfl (by kernel_rfl) rfl (fun _ => by go_simp; with_reducible rfl) (by simp only [sW]; rfl) ?_
      refine pU 18 33 524287 (some 32) rfl rfl (by kernel_rfl) rfl (fun _ => by go_simp; with_reducible rfl) (by simp only [sW]; rfl) ?_
      refine oN 19 33 1048575 (some 33) rfl rfl (by kernel_rfl) (by decide) (fun K hK => ?_)
      refine goes_ Tryz.func149 (by kernel_rfl) rfl #[.string s] (by rfl) rfl rfl (by (try simp only [List.map_toArray, List.map_cons, List.map_nil]); first | done | rfl | (simp only [List.length_drop, List.length_take]; rfl)) ?_; refine (ha1 _).mono ?_
      rintro _ wk ⟨rfl, hb⟩
      refine ⟨_, rfl, ?_⟩
      have HC := hI (below_blk hb HC.out)
      have HT := hI (And.intro (pw_cell_below hb HT.out.1) (pw_cell_below hb HT.out.2))
      have HB := hI (HB.out.trans (hb.mono HB.out.size))
      clear hb
      refine hK.out _ _ ⟨(cell_blk HC.out 0).trans rfl, HT.out.1⟩ (fun hHeld => ?_)
      clear hK K
      refine norm_ (by show Act.put _ (some 33) _ = _; simp only [sW]; rfl) ?_
      refine pU 20 33 2097151 (some 34) rfl rfl (by kernel_rfl) rfl (fun _ => by go_simp; with_reducible rfl) (by simp only [sW]; rfl) ?_
      refine pU 21 33 4194303 (some 35) rfl rfl (by kernel_rfl) rfl (fun _ => by go_simp; with_reducible rfl) (by simp only [sW]; rfl) ?_
      refine pU 22 33 8388607 (some 36) rfl rfl (by kernel_rfl) rfl (fun _ => by go_simp; with_reducible rfl) (by simp only [sW]; rfl) ?_
      refine pU 23 33 16777215 (some 37) rfl rfl (by kernel_rfl) rfl (fun _ => by go_simp; with_reducible rfl) (by simp only [sW]; rfl) ?_
      refine pU 24 33 33554431 (some 38) rfl rfl (by kernel_rfl) rfl (fun _ => by go_simp; with_reducible rfl) (by simp only [sW]; rfl) ?_
      refine pU 25 33 67108863 (some 39) rfl rfl (by kernel_rfl) rfl (fun _ => by go_simp; with_reducible rfl) (by simp only [sW]; rfl) ?_
      refine tA 26 33 134217727 (some 40) rfl rfl (by kernel_rfl) rfl (fun _ ⟨s0, s1⟩ => by go_simp; with_reducible rfl) hHeld (by simp only [sW]; rfl) ?_
      refine oN 27 33 268435455 (some 41) rfl rfl (by kernel_rfl) (by decide) (fun K hK => ?_)
      refine goes_ Tryz.func149 (by kernel_rfl) rfl #[.string t.1] (by rfl) rfl rfl (by (try simp only [List.map_toArray, List.map_cons, List.map_nil]); first | done | rfl | (simp only [List.length_drop, List.length_take]; rfl)) ?_; refine (ha2 _).mono ?_
      rintro _ wk ⟨rfl, hb⟩
      refine ⟨_, rfl, ?_⟩
      have HC := hI (below_blk hb HC.out)
      have HT := hI (And.intro (pw_cell_below hb HT.out.1) (pw_cell_below hb HT.out.2))
      have HB := hI (HB.out.trans (hb.mono HB.out.size))
      clear hb
      refine hK.out _ _ ⟨(cell_blk HC.out 0).trans rfl, HT.out.1⟩ (fun hHeld => ?_)
      clear hK K
      refine norm_ (by show Act.put _ (some 41) _ = _; simp only [sW]; rfl) ?_
      refine pU 28 33 536870911 (some 42) rfl rfl (by kernel_rfl) rfl (fun _ => by go_simp; with_reducible rfl) (by simp only [sW]; rfl) ?_
      refine pU 29 33 1073741823 (some 43) rfl rfl (by kernel_rfl) rfl (fun _ => by go_simp; with_reducible rfl) (by simp only [sW]; rfl) ?_
      refine pU 30 33 2147483647 (some 44) rfl rfl (by kernel_rfl) rfl (fun _ => by go_simp; with_reducible rfl) (by simp only [sW]; rfl) ?_
      refine pU 31 33 4294967295 (some 45) rfl rfl (by kernel_rfl) rfl (fun _ => by go_simp; with_reducible rfl) (by simp only [sW]; rfl) ?_
      refine lA 32 33 8589934591 none rfl rfl (by kernel_rfl) (by decide) (fun K hK => ?_)
      have cO := (cell_blk HC.out 0).trans rfl
      have fO := frozen_blk HC.out 0 (by omega)
      refine skip_ (w1 := ?_) (by rfl) rfl ?_ ?_; rotate_left; (go_simp; first | rfl | done)
      refine hK.out _ _ ?_
      clear hK K
      refine done_ (by kernel_rfl) ?_
      have hC2 := set_blk HC.out 0 (.bool true)
      have hO2 : Only [O] w (wk.setCell ⟨O, 0, none⟩ (.bool true)) := (Only.of_below HB.out).setCell (p := ⟨O, 0, none⟩) (by simp) (.bool true)
      have t2 : (wk.setCell ⟨O, 0, none⟩ (.bool true)).cell? ⟨tb, tof + 1, none⟩ = some (.bool t.2) := by rw [World.cell?_setCell_other _ _ _ _ (by simp <;> omega)]; exact HT.out.2
      generalize hwz : wk.setCell _ _ = wz at hC2 hO2 t2 ⊢
      have HC2 := hI hC2
      have HO2 := hI hO2
      clear hC2 hO2 hwz HB HC HT cO fO
      go_wp2
      go_ret
      exact ⟨true, _, rfl, HC2.out, HO2.out, fun h => nomatch h⟩)
    ·cases h0
     all_goals (
      refine start_ (n := 33) (S := fun W => W.cell? ⟨O, 0, none⟩ = some (.bool false) ∧ W.cell? ⟨tb, tof, none⟩ = some (.string t.1)) (ds := [32]) (bM 33 0) (by kernel_rfl) rfl (by kernel_rfl) ⟨(cell_blk HC.out 0).trans rfl, HT.out.1⟩ (fun hHeld => ?_)
      have HC := hI (show w1.drew.heap[O]? = some (.cells #[.bool false] 85) from HC.out)
      have HT := hI (show w1.drew.cell? ⟨tb, tof, none⟩ = some (.string t.1) ∧ w1.drew.cell? ⟨tb, tof + 1, none⟩ = some (.bool t.2) from HT.out)
      have HB := hI (show Below w.heap.size w w1.drew from HB.out.drew)
      generalize w1.drew = wk at HC HT HB hHeld ⊢
      refine pU 0 33 1 (some 14) rfl rfl (by kernel_rfl) rfl (fun _ => by go_simp; with_reducible rfl) (by simp only [sW]; rfl) ?_
      refine pU 1 33 3 (some 15) rfl rfl (by kernel_rfl) rfl (fun _ => by go_simp; with_reducible rfl) (by simp only [sW]; rfl) ?_
      refine pU 2 33 7 (some 16) rfl rfl (by kernel_rfl) rfl (fun _ => by go_simp; with_reducible rfl) (by simp only [sW]; rfl) ?_
      refine pU 3 33 15 (some 17) rfl rfl (by kernel_rfl) rfl (fun _ => by go_simp; with_reducible rfl) (by simp only [sW]; rfl) ?_
      refine tA 4 33 31 (some 18) rfl rfl (by kernel_rfl) rfl (fun _ ⟨s0, s1⟩ => by go_simp; with_reducible rfl) hHeld (by simp only [sW]; rfl) ?_
      refine pU 5 33 63 (some 19) rfl rfl (by kernel_rfl) rfl (fun _ => by go_simp; with_reducible rfl) (by simp only [sW]; rfl) ?_
      refine pU 6 33 127 (some 20) rfl rfl (by kernel_rfl) rfl (fun _ => by go_simp; with_reducible rfl) (by simp only [sW]; rfl) ?_
      refine pU 7 33 255 (some 21) rfl rfl (by kernel_rfl) rfl (fun _ => by go_simp; with_reducible rfl) (by simp only [sW]; rfl) ?_
      refine pU 9 33 767 (some 23) rfl rfl (by kernel_rfl) rfl (fun _ => by go_simp; with_reducible rfl) (by simp only [sW]; rfl) ?_
      refine pU 10 33 1791 (some 24) rfl rfl (by kernel_rfl) rfl (fun _ => by go_simp; with_reducible rfl) (by simp only [sW]; rfl) ?_
      refine pU 11 33 3839 (some 25) rfl rfl (by kernel_rfl) rfl (fun _ => by go_simp; with_reducible rfl) (by simp only [sW]; rfl) ?_
      refine tA 12 33 7935 (some 26) rfl rfl (by kernel_rfl) rfl (fun _ ⟨s0, s1⟩ => by go_simp; with_reducible rfl) hHeld (by simp only [sW]; rfl) ?_
      refine oN 8 33 8191 (some 22) rfl rfl (by kernel_rfl) (by decide) (fun K hK => ?_)
      refine goes_ Tryz.func65 (by kernel_rfl) rfl #[.string s] (by rfl) rfl rfl (by (try simp only [List.map_toArray, List.map_cons, List.map_nil]); first | done | rfl | (simp only [List.length_drop, List.length_take]; rfl)) ?_; refine (upper_spec s _ (by omega)).mono ?_
      rintro _ wk ⟨rfl, hb⟩
      refine ⟨_, rfl, ?_⟩
      have HC := hI (below_blk hb HC.out)
      have HT := hI (And.intro (pw_cell_below hb HT.out.1) (pw_cell_below hb HT.out.2))
      have HB := hI (HB.out.trans (hb.mono HB.out.size))
      clear hb
      refine hK.out _ _ ⟨(cell_blk HC.out 0).trans rfl, HT.out.1⟩ (fun hHeld => ?_)
      clear hK K
      refine norm_ (by show Act.put _ (some 22) _ = _; simp only [sW]; rfl) ?_
      refine oN 13 33 16383 (some 27) rfl rfl (by kernel_rfl) (by decide) (fun K hK => ?_)
      refine goes_ Tryz.func65 (by kernel_rfl) rfl #[.string t.1] (by rfl) rfl rfl (by (try simp only [List.map_toArray, List.map_cons, List.map_nil]); first | done | rfl | (simp only [List.length_drop, List.length_take]; rfl)) ?_; refine (upper_spec t.1 _ (by omega)).mono ?_
      rintro _ wk ⟨rfl, hb⟩
      refine ⟨_, rfl, ?_⟩
      have HC := hI (below_blk hb HC.out)
      have HT := hI (And.intro (pw_cell_below hb HT.out.1) (pw_cell_below hb HT.out.2))
      have HB := hI (HB.out.trans (hb.mono HB.out.size))
      clear hb
      refine hK.out _ _ ⟨(cell_blk HC.out 0).trans rfl, HT.out.1⟩ (fun hHeld => ?_)
      clear hK K
      refine norm_ (by show Act.put _ (some 27) _ = _; simp only [sW]; rfl) ?_
      refine oN 14 33 32767 (some 28) rfl rfl (by kernel_rfl) (by decide) (fun K hK => ?_)
      refine goes_ Tryz.func148 (by kernel_rfl) rfl #[.string (upper s), .string (upper t.1)] (by rfl) rfl rfl (by (try simp only [List.map_toArray, List.map_cons, List.map_nil]); first | done | rfl | (simp only [List.length_drop, List.length_take]; rfl)) ?_; refine (hc1 _).mono ?_
      rintro _ wk ⟨rfl, hb⟩
      refine ⟨_, rfl, ?_⟩
      have HC := hI (below_blk hb HC.out)
      have HT := hI (And.intro (pw_cell_below hb HT.out.1) (pw_cell_below hb HT.out.2))
      have HB := hI (HB.out.trans (hb.mono HB.out.size))
      clear hb
      refine hK.out _ _ ⟨(cell_blk HC.out 0).trans rfl, HT.out.1⟩ (fun hHeld => ?_)
      clear hK K
      refine norm_ (by show Act.put _ (some 28) _ = _; simp only [sW]; rfl) ?_
      refine pU 15 33 65535 (some 29) rfl rfl (by kernel_rfl) rfl (fun _ => by go_simp; with_reducible rfl) (by simp only [sW]; rfl) ?_
      refine pU 16 33 131071 (some 30) rfl rfl (by kernel_rfl) rfl (fun _ => by go_simp; with_reducible rfl) (by simp only [sW]; rfl) ?_
      refine pU 17 33 262143 (some 31) rfl rfl (by kernel_rfl) rfl (fun _ => by go_simp; with_reducible rfl) (by simp only [sW]; rfl) ?_
      refine pU 18 33 524287 (some 32) rfl rfl (by kernel_rfl) rfl (fun _ => by go_simp; with_reducible rfl) (by simp only [sW]; rfl) ?_
      refine oN 19 33 1048575 (some 33) rfl rfl (by kernel_rfl) (by decide) (fun K hK => ?_)
      refine goes_ Tryz.func149 (by kernel_rfl) rfl #[.string s] (by rfl) rfl rfl (by (try simp only [List.map_toArray, List.map_cons, List.map_nil]); first | done | rfl | (simp only [List.length_drop, List.length_take]; rfl)) ?_; refine (ha1 _).mono ?_
      rintro _ wk ⟨rfl, hb⟩
      refine ⟨_, rfl, ?_⟩
      have HC := hI (below_blk hb HC.out)
      have HT := hI (And.intro (pw_cell_below hb HT.out.1) (pw_cell_below hb HT.out.2))
      have HB := hI (HB.out.trans (hb.mono HB.out.size))
      clear hb
      refine hK.out _ _ ⟨(cell_blk HC.out 0).trans rfl, HT.out.1⟩ (fun hHeld => ?_)
      clear hK K
      refine norm_ (by show Act.put _ (some 33) _ = _; simp only [sW]; rfl) ?_
      refine pU 20 33 2097151 (some 34) rfl rfl (by kernel_rfl) rfl (fun _ => by go_simp; with_reducible rfl) (by simp only [sW]; rfl) ?_
      refine pU 21 33 4194303 (some 35) rfl rfl (by kernel_rfl) rfl (fun _ => by go_simp; with_reducible rfl) (by simp only [sW]; rfl) ?_
      refine pU 22 33 8388607 (some 36) rfl rfl (by kernel_rfl) rfl (fun _ => by go_simp; with_reducible rfl) (by simp only [sW]; rfl) ?_
      refine pU 23 33 16777215 (some 37) rfl rfl (by kernel_rfl) rfl (fun _ => by go_simp; with_reducible rfl) (by simp only [sW]; rfl) ?_
      refine pU 24 33 33554431 (some 38) rfl rfl (by kernel_rfl) rfl (fun _ => by go_simp; with_reducible rfl) (by simp only [sW]; rfl) ?_
      refine pU 25 33 67108863 (some 39) rfl rfl (by kernel_rfl) rfl (fun _ => by go_simp; with_reducible rfl) (by simp only [sW]; rfl) ?_
      refine tA 26 33 134217727 (some 40) rfl rfl (by kernel_rfl) rfl (fun _ ⟨s0, s1⟩ => by go_simp; with_reducible rfl) hHeld (by simp only [sW]; rfl) ?_
      refine oN 27 33 268435455 (some 41) rfl rfl (by kernel_rfl) (by decide) (fun K hK => ?_)
      refine goes_ Tryz.func149 (by kernel_rfl) rfl #[.string t.1] (by rfl) rfl rfl (by (try simp only [List.map_toArray, List.map_cons, List.map_nil]); first | done | rfl | (simp only [List.length_drop, List.length_take]; rfl)) ?_; refine (ha2 _).mono ?_
      rintro _ wk ⟨rfl, hb⟩
      refine ⟨_, rfl, ?_⟩
      have HC := hI (below_blk hb HC.out)
      have HT := hI (And.intro (pw_cell_below hb HT.out.1) (pw_cell_below hb HT.out.2))
      have HB := hI (HB.out.trans (hb.mono HB.out.size))
      clear hb
      refine hK.out _ _ ⟨(cell_blk HC.out 0).trans rfl, HT.out.1⟩ (fun hHeld => ?_)
      clear hK K
      refine norm_ (by show Act.put _ (some 41) _ = _; simp only [sW]; rfl) ?_
      refine pU 28 33 536870911 (some 42) rfl rfl (by kernel_rfl) rfl (fun _ => by go_simp; with_reducible rfl) (by simp only [sW]; rfl) ?_
      refine pU 29 33 1073741823 (some 43) rfl rfl (by kernel_rfl) rfl (fun _ => by go_simp; with_reducible rfl) (by simp only [sW]; rfl) ?_
      refine pU 30 33 2147483647 (some 44) rfl rfl (by kernel_rfl) rfl (fun _ => by go_simp; with_reducible rfl) (by simp only [sW]; rfl) ?_
      refine pU 31 33 4294967295 (some 45) rfl rfl (by kernel_rfl) rfl (fun _ => by go_simp; with_reducible rfl) (by simp only [sW]; rfl) ?_
      refine lA 32 33 8589934591 none rfl rfl (by kernel_rfl) (by decide) (fun K hK => ?_)
      have cO := (cell_blk HC.out 0).trans rfl
      have fO := frozen_blk HC.out 0 (by omega)
      refine skip_ (w1 := ?_) (by rfl) rfl ?_ ?_; rotate_left; (go_simp; first | rfl | done)
      refine hK.out _ _ ?_
      clear hK K
      refine done_ (by kernel_rfl) ?_
      have hC2 := set_blk HC.out 0 (.bool false)
      have hO2 : Only [O] w (wk.setCell ⟨O, 0, none⟩ (.bool false)) := (Only.of_below HB.out).setCell (p := ⟨O, 0, none⟩) (by simp) (.bool false)
      have t2 : (wk.setCell ⟨O, 0, none⟩ (.bool false)).cell? ⟨tb, tof + 1, none⟩ = some (.bool t.2) := by rw [World.cell?_setCell_other _ _ _ _ (by simp <;> omega)]; exact HT.out.2
      generalize hwz : wk.setCell _ _ = wz at hC2 hO2 t2 ⊢
      have HC2 := hI hC2
      have HO2 := hI hO2
      clear hC2 hO2 hwz HB HC HT cO fO
      go_wp2
      go_ret
      exact ⟨false, _, rfl, HC2.out, HO2.out, fun _ => ⟨rfl, by cases t.2 <;> rfl⟩⟩)
  ·have heq' : h1 = !h0 := by cases h0 <;> cases h1 <;> simp at heq ⊢
   subst heq'
   clear heq
   cases h0
   all_goals (
    refine start_ (n := 33) (S := fun W => W.cell? ⟨O, 0, none⟩ = some (.bool false) ∧ W.cell? ⟨tb, tof, none⟩ = some (.string t.1)) (ds := [32]) (bM 33 0) (by kernel_rfl) rfl (by kernel_rfl) ⟨(cell_blk HC.out 0).trans rfl, HT.out.1⟩ (fun hHeld => ?_)
    have HC := hI (show w1.drew.heap[O]? = some (.cells #[.bool false] 85) from HC.out)
    have HT := hI (show w1.drew.cell? ⟨tb, tof, none⟩ = some (.string t.1) ∧ w1.drew.cell? ⟨tb, tof + 1, none⟩ = some (.bool t.2) from HT.out)
    have HB := hI (show Below w.heap.size w w1.drew from HB.out.drew)
    generalize w1.drew = wk at HC HT HB hHeld ⊢
    refine pU 0 33 1 (some 14) rfl rfl (by kernel_rfl) rfl (fun _ => by go_simp; with_reducible rfl) (by simp only [sW]; rfl) ?_
    refine pU 1 33 3 (some 15) rfl rfl (by kernel_rfl) rfl (fun _ => by go_simp; with_reducible rfl) (by simp only [sW]; rfl) ?_
    refine pU 2 33 7 (some 16) rfl rfl (by kernel_rfl) rfl (fun _ => by go_simp; with_reducible rfl) (by simp only [sW]; rfl) ?_
    refine pU 3 33 15 (some 17) rfl rfl (by kernel_rfl) rfl (fun _ => by go_simp; with_reducible rfl) (by simp only [sW]; rfl) ?_
    refine tA 4 33 31 (some 18) rfl rfl (by kernel_rfl) rfl (fun _ ⟨s0, s1⟩ => by go_simp; with_reducible rfl) hHeld (by simp only [sW]; rfl) ?_
    refine pU 5 33 63 (some 19) rfl rfl (by kernel_rfl) rfl (fun _ => by go_simp; with_reducible rfl) (by simp only [sW]; rfl) ?_
    refine pU 6 33 127 (some 20) rfl rfl (by kernel_rfl) rfl (fun _ => by go_simp; with_reducible rfl) (by simp only [sW]; rfl) ?_
    refine pU 7 33 255 (some 21) rfl rfl (by kernel_rfl) rfl (fun _ => by go_simp; with_reducible rfl) (by simp only [sW]; rfl) ?_
    refine pU 9 33 767 (some 23) rfl rfl (by kernel_rfl) rfl (fun _ => by go_simp; with_reducible rfl) (by simp only [sW]; rfl) ?_
    refine pU 10 33 1791 (some 24) rfl rfl (by kernel_rfl) rfl (fun _ => by go_simp; with_reducible rfl) (by simp only [sW]; rfl) ?_
    refine pU 11 33 3839 (some 25) rfl rfl (by kernel_rfl) rfl (fun _ => by go_simp; with_reducible rfl) (by simp only [sW]; rfl) ?_
    refine tA 12 33 7935 (some 26) rfl rfl (by kernel_rfl) rfl (fun _ ⟨s0, s1⟩ => by go_simp; with_reducible rfl) hHeld (by simp only [sW]; rfl) ?_
    refine oN 8 33 8191 (some 22) rfl rfl (by kernel_rfl) (by decide) (fun K hK => ?_)
    refine goes_ Tryz.func65 (by kernel_rfl) rfl #[.string s] (by rfl) rfl rfl (by (try simp only [List.map_toArray, List.map_cons, List.map_nil]); first | done | rfl | (simp only [List.length_drop, List.length_take]; rfl)) ?_; refine (upper_spec s _ (by omega)).mono ?_
    rintro _ wk ⟨rfl, hb⟩
    refine ⟨_, rfl, ?_⟩
    have HC := hI (below_blk hb HC.out)
    have HT := hI (And.intro (pw_cell_below hb HT.out.1) (pw_cell_below hb HT.out.2))
    have HB := hI (HB.out.trans (hb.mono HB.out.size))
    clear hb
    refine hK.out _ _ ⟨(cell_blk HC.out 0).trans rfl, HT.out.1⟩ (fun hHeld => ?_)
    clear hK K
    refine norm_ (by show Act.put _ (some 22) _ = _; simp only [sW]; rfl) ?_
    refine oN 13 33 16383 (some 27) rfl rfl (by kernel_rfl) (by decide) (fun K hK => ?_)
    refine goes_ Tryz.func65 (by kernel_rfl) rfl #[.string t.1] (by rfl) rfl rfl (by (try simp only [List.map_toArray, List.map_cons, List.map_nil]); first | done | rfl | (simp only [List.length_drop, List.length_take]; rfl)) ?_; refine (upper_spec t.1 _ (by omega)).mono ?_
    rintro _ wk ⟨rfl, hb⟩
    refine ⟨_, rfl, ?_⟩
    have HC := hI (below_blk hb HC.out)
    have HT := hI (And.intro (pw_cell_below hb HT.out.1) (pw_cell_below hb HT.out.2))
    have HB := hI (HB.out.trans (hb.mono HB.out.size))
    clear hb
    refine hK.out _ _ ⟨(cell_blk HC.out 0).trans rfl, HT.out.1⟩ (fun hHeld => ?_)
    clear hK K
    refine norm_ (by show Act.put _ (some 27) _ = _; simp only [sW]; rfl) ?_
    refine oN 14 33 32767 (some 28) rfl rfl (by kernel_rfl) (by decide) (fun K hK => ?_)
    refine goes_ Tryz.func148 (by kernel_rfl) rfl #[.string (upper s), .string (upper t.1)] (by rfl) rfl rfl (by (try simp only [List.map_toArray, List.map_cons, List.map_nil]); first | done | rfl | (simp only [List.length_drop, List.length_take]; rfl)) ?_; refine (hc1 _).mono ?_
    rintro _ wk ⟨rfl, hb⟩
    refine ⟨_, rfl, ?_⟩
    have HC := hI (below_blk hb HC.out)
    have HT := hI (And.intro (pw_cell_below hb HT.out.1) (pw_cell_below hb HT.out.2))
    have HB := hI (HB.out.trans (hb.mono HB.out.size))
    clear hb
    refine hK.out _ _ ⟨(cell_blk HC.out 0).trans rfl, HT.out.1⟩ (fun hHeld => ?_)
    clear hK K
    refine norm_ (by show Act.put _ (some 28) _ = _; simp only [sW]; rfl) ?_
    refine pU 15 33 65535 (some 29) rfl rfl (by kernel_rfl) rfl (fun _ => by go_simp; with_reducible rfl) (by simp only [sW]; rfl) ?_
    refine pU 16 33 131071 (some 30) rfl rfl (by kernel_rfl) rfl (fun _ => by go_simp; with_reducible rfl) (by simp only [sW]; rfl) ?_
    refine pU 17 33 262143 (some 31) rfl rfl (by kernel_rfl) rfl (fun _ => by go_simp; with_reducible rfl) (by simp only [sW]; rfl) ?_
    refine pO 18 33 524287 (some 32) rfl rfl (by kernel_rfl) rfl (by simp only [sW]; rfl) ?_
    refine pO 19 33 1048575 (some 33) rfl rfl (by kernel_rfl) rfl (by simp only [sW]; rfl) ?_
    refine pO 20 33 2097151 (some 34) rfl rfl (by kernel_rfl) rfl (by simp only [sW]; rfl) ?_
    refine pU 21 33 4194303 (some 35) rfl rfl (by kernel_rfl) rfl (fun _ => by go_simp; with_reducible rfl) (by simp only [sW]; rfl) ?_
    refine pU 22 33 8388607 (some 36) rfl rfl (by kernel_rfl) rfl (fun _ => by go_simp; with_reducible rfl) (by simp only [sW]; rfl) ?_
    refine pO 23 33 16777215 (some 37) rfl rfl (by kernel_rfl) rfl (by simp only [sW]; rfl) ?_
    refine pO 24 33 33554431 (some 38) rfl rfl (by kernel_rfl) rfl (by simp only [sW]; rfl) ?_
    refine pO 25 33 67108863 (some 39) rfl rfl (by kernel_rfl) rfl (by simp only [sW]; rfl) ?_
    refine pO 26 33 134217727 (some 40) rfl rfl (by kernel_rfl) rfl (by simp only [sW]; rfl) ?_
    refine pO 27 33 268435455 (some 41) rfl rfl (by kernel_rfl) rfl (by simp only [sW]; rfl) ?_
    refine pO 28 33 536870911 (some 42) rfl rfl (by kernel_rfl) rfl (by simp only [sW]; rfl) ?_
    refine pU 29 33 1073741823 (some 43) rfl rfl (by kernel_rfl) rfl (fun _ => by go_simp; with_reducible rfl) (by simp only [sW]; rfl) ?_
    refine pU 30 33 2147483647 (some 44) rfl rfl (by kernel_rfl) rfl (fun _ => by go_simp; with_reducible rfl) (by simp only [sW]; rfl) ?_
    refine pU 31 33 4294967295 (some 45) rfl rfl (by kernel_rfl) rfl (fun _ => by go_simp; with_reducible rfl) (by simp only [sW]; rfl) ?_
    refine lA 32 33 8589934591 none rfl rfl (by kernel_rfl) (by decide) (fun K hK => ?_)
    have cO := (cell_blk HC.out 0).trans rfl
    have fO := frozen_blk HC.out 0 (by omega)
    refine skip_ (w1 := ?_) (by rfl) rfl ?_ ?_; rotate_left; (go_simp; first | rfl | done)
    refine hK.out _ _ ?_
    clear hK K
    refine done_ (by kernel_rfl) ?_
    have hC2 := set_blk HC.out 0 (.bool true)
    have hO2 : Only [O] w (wk.setCell ⟨O, 0, none⟩ (.bool true)) := (Only.of_below HB.out).setCell (p := ⟨O, 0, none⟩) (by simp) (.bool true)
    have t2 : (wk.setCell ⟨O, 0, none⟩ (.bool true)).cell? ⟨tb, tof + 1, none⟩ = some (.bool t.2) := by rw [World.cell?_setCell_other _ _ _ _ (by simp <;> omega)]; exact HT.out.2
    generalize hwz : wk.setCell _ _ = wz at hC2 hO2 t2 ⊢
    have HC2 := hI hC2
    have HO2 := hI hO2
    clear hC2 hO2 hwz HB HC HT cO fO
    go_wp2
    go_ret
    exact ⟨true, _, rfl, HC2.out, HO2.out, fun h => nomatch h⟩)
end Go.Proofs.YtcllaplddebilaaGreatDoor

/- laws.FnKMatch: a part of the proof: KSizeW. -/
import Derived.Test.YtcllaplddebilaaGreatDoorK16
set_option maxRecDepth 1000000
set_option maxHeartbeats 64000000
set_option linter.unusedVariables false
set_option linter.unusedSimpArgs false
namespace Go.Proofs.YtcllaplddebilaaGreatDoor
open Go.RowKit Go.Sort
attribute [local go_sem] cell?_grow frozen?_grow cell?_redrawn frozen?_redrawn size_redrawn size_grow ba_get ba_extract
attribute [local simp] size_redrawn
open Go.Lib Go.Proofs.YtcllaplddebilaaGreatDoorW.PrintWords Go.Proofs.YtcllaplddebilaaGreatDoorW.PrintLast Go.Proofs.YtcllaplddebilaaGreatDoorW.PrintMore PFnKMatch
def secB (n : Int) : Bool := decide (0 ≤ n) && decide (n ≤ 8589934592)
theorem ksec (n : Int) (w : World) (b : Bool) (h : secB n = b) : Calls Tryz.prog 67 #[.int .i64 n] w fun e w' => e = .returned (.bool b) ∧ w = w' := by
 unfold secB at h
 by_cases h0 : 0 ≤ n <;> by_cases h1 : n ≤ 8589934592
 all_goals (
  simp [h0, h1] at h
  subst h
  go_enter Tryz.func67, Tryz.ntmps67
  go_wp2
  go_ret
  exact ⟨rfl, rfl⟩)
theorem secB_true {n : Int} (h : secB n = true) : 0 ≤ n ∧ n ≤ 8589934592 := by
 unfold secB at h
 simpa using h
def KSPost (w : World) (L : Nat) (n : Int) (x : KCo) (e : Ending) (w' : World) : Prop := ∃ (b : Bool) (m : Int), e = .returned (.bool b) ∧ w'.heap[L]? = some (.cells #[.int .i64 m] 3) ∧ Only [L] w w' ∧ (b = true → 0 ≤ m ∧ m + 1 + x.props.length + x.comps.length ≤ n ∧ KOk x)
theorem kSize (N : Nat) : ∀ (x : KCo) (_ : SizeOf.sizeOf x ≤ N) (A B : Option Addr) (c c2 : Nat) (d : Int) (_ : 0 ≤ d + 10) (_ : d ≤ 5) (L : Nat) (n : Int) (_ : 0 ≤ n) (_ : n ≤ 40) (w0 w : World) (_ : Below w0.heap.size w0 w) (_ : w0.heap.size ≤ L)
  (_ : w.heap[L]? = some (.cells #[.int .i64 n] 3)) (_ : kPr.C w0 A x.props.length x.props) (_ : kCo.C w0 B x.comps.length x.comps),
  Calls Tryz.prog 35 #[.agg #[.string x.name, .bool x.absent, .bool x.has, .bool x.hasEnd, .int .i64 x.st, .int .i64 x.en, .slice A x.props.length c, .slice B x.comps.length c2], .int .i64 d, .pointer (some ⟨L, 0, none⟩)] w (KSPost w L n x) := by
 induction N with
 | zero => intro x h; cases x; simp at h
 | succ N ih =>
  intro x hN0 A B c c2 d hd0 hd1 L n hn0 hn1 w0 w hb0 hL0 hL hp hkk
  have hlL := lt_blk hL
  have hz0 := hb0.size
  have hl1 := hp.2.1
  have hl2 := hkk.2.1
  have hN := hI hN0
  clear hN0
  have hw1 : wrap64 (n - 1) = n - 1 := by unfold wrap64; omega
  have hsz1 : (w.setCell ⟨L, 0, none⟩ (.int .i64 (n - 1))).heap.size = w.heap.size := by simp [World.setCell]
  have hL1 := set_blk hL 0 (.int .i64 (n - 1))
  have hX1 := new_blk (w.setCell ⟨L, 0, none⟩ (.int .i64 (n - 1))) (.cells #[.string x.name, .bool x.absent, .bool x.has, .bool x.hasEnd, .int .i64 x.st, .int .i64 x.en, .slice A x.props.length c, .slice B x.comps.length c2] 42)
  rw [hsz1] at hX1
  have HL := hI (old_blk hL1 (.cells #[.string x.name, .bool x.absent, .bool x.has, .bool x.hasEnd, .int .i64 x.st, .int .i64 x.en, .slice A x.props.length c, .slice B x.comps.length c2] 42))
  have HX := hI hX1
  have HO := hI (((Only.refl [L] w).setCell (p := ⟨L, 0, none⟩) (by simp) (.int .i64 (n - 1))).alloc (.cells #[.string x.name, .bool x.absent, .bool x.has, .bool x.hasEnd, .int .i64 x.st, .int .i64 x.en, .slice A x.props.length c, .slice B x.comps.length c2] 42))
  have q0 : w.cell? ⟨L, 0, none⟩ = some (.int .i64 n) := (cell_blk hL 0).trans rfl
  have q1 : w.frozen? ⟨L, 0, none⟩ = false := frozen_blk hL 0 (by omega)
  have q2 : (w.setCell ⟨L, 0, none⟩ (.int .i64 (n - 1))).cell? ⟨L, 0, none⟩ = some (.int .i64 (n - 1)) := (cell_blk hL1 0).trans rfl
  clear hsz1 hL1 hX1
  have x0 : ((w.setCell ⟨L, 0, none⟩ (.int .i64 (n - 1))).alloc (.cells #[.string x.name, .bool x.absent, .bool x.has, .bool x.hasEnd, .int .i64 x.st, .int .i64 x.en, .slice A x.props.length c, .slice B x.comps.length c2] 42)).cell? ⟨w.heap.size, 0, none⟩ = some (.string x.name) := (cell_blk HX.out 0).trans rfl
  have x4 : ((w.setCell ⟨L, 0, none⟩ (.int .i64 (n - 1))).alloc (.cells #[.string x.name, .bool x.absent, .bool x.has, .bool x.hasEnd, .int .i64 x.st, .int .i64 x.en, .slice A x.props.length c, .slice B x.comps.length c2] 42)).cell? ⟨w.heap.size, 4, none⟩ = some (.int .i64 x.st) := (cell_blk HX.out 4).trans rfl
  have x5 : ((w.setCell ⟨L, 0, none⟩ (.int .i64 (n - 1))).alloc (.cells #[.string x.name, .bool x.absent, .bool x.has, .bool x.hasEnd, .int .i64 x.st, .int .i64 x.en, .slice A x.props.length c, .slice B x.comps.length c2] 42)).cell? ⟨w.heap.size, 5, none⟩ = some (.int .i64 x.en) := (cell_blk HX.out 5).trans rfl
  have x6 : ((w.setCell ⟨L, 0, none⟩ (.int .i64 (n - 1))).alloc (.cells #[.string x.name, .bool x.absent, .bool x.has, .bool x.hasEnd, .int .i64 x.st, .int .i64 x.en, .slice A x.props.length c, .slice B x.comps.length c2] 42)).cell? ⟨w.heap.size, 6, none⟩ = some (.slice A x.props.length c) := (cell_blk HX.out 6).trans rfl
  have x7 : ((w.setCell ⟨L, 0, none⟩ (.int .i64 (n - 1))).alloc (.cells #[.string x.name, .bool x.absent, .bool x.has, .bool x.hasEnd, .int .i64 x.st, .int .i64 x.en, .slice A x.props.length c, .slice B x.comps.length c2] 42)).cell? ⟨w.heap.size, 7, none⟩ = some (.slice B x.comps.length c2) := (cell_blk HX.out 7).trans rfl
  by_cases hk1 : n - 1 < 0
  ·skip
   go_enter Tryz.func35, Tryz.ntmps35
   go_wp2
   go_ret
   exact ⟨false, _, rfl, HL.out, HO.out, fun h => nomatch h⟩
  ·have hk1' : 0 ≤ n - 1 := by omega
   by_cases hk2 : d < 0
   ·skip
    go_enter Tryz.func35, Tryz.ntmps35
    go_wp2
    go_ret
    exact ⟨false, _, rfl, HL.out, HO.out, fun h => nomatch h⟩
   ·have hk2' : 0 ≤ d := by omega
    by_cases hk3 : x.props.length > 10
    ·have hk3' : (10 : Int) < (x.props.length : Int) := by omega
     go_enter Tryz.func35, Tryz.ntmps35
     go_wp2
     go_ret
     exact ⟨false, _, rfl, HL.out, HO.out, fun h => nomatch h⟩
    ·have hk3' : ¬ (10 : Int) < (x.props.length : Int) := by omega
     by_cases hk4 : x.name.size > 50
     ·have hk4' : (50 : Int) < (x.name.size : Int) := by omega
      go_enter Tryz.func35, Tryz.ntmps35
      go_wp2
      go_ret
      exact ⟨false, _, rfl, HL.out, HO.out, fun h => nomatch h⟩
     ·have hk4' : ¬ (50 : Int) < (x.name.size : Int) := by omega
      cases hs1 : secB x.st with
      | false =>
       go_enter Tryz.func35, Tryz.ntmps35
       go_wp2_with (first | (with_reducible refine (ksec x.st _ _ hs1).mono ?_; rintro _ _ ⟨rfl, rfl⟩))
       go_ret
       exact ⟨false, _, rfl, HL.out, HO.out, fun h => nomatch h⟩
      | true =>
       cases he1 : secB x.en with
       | false =>
        go_enter Tryz.func35, Tryz.ntmps35
        go_wp2_with (first | (with_reducible refine (ksec x.st _ _ hs1).mono ?_; rintro _ _ ⟨rfl, rfl⟩) | (with_reducible refine (ksec x.en _ _ he1).mono ?_; rintro _ _ ⟨rfl, rfl⟩))
        go_ret
        exact ⟨false, _, rfl, HL.out, HO.out, fun h => nomatch h⟩
       | true =>
        go_enter Tryz.func35, Tryz.ntmps35
        go_wp2_with (first | (with_reducible refine (ksec x.st _ _ hs1).mono ?_; rintro _ _ ⟨rfl, rfl⟩) | (with_reducible refine (ksec x.en _ _ he1).mono ?_; rintro _ _ ⟨rfl, rfl⟩))
        go_loopw [53] (fun i wr => ∃ (k : Nat) (m : Int), k ≤ x.props.length ∧ i = .int .i64 k ∧ 0 ≤ m ∧ m + k ≤ n - 1 ∧ Hid (wr.heap[L]? = some (.cells #[.int .i64 m] 3)) ∧ Hid (Only [L] w wr) ∧ Hid (wr.heap[w.heap.size]? = some (.cells #[.string x.name, .bool x.absent, .bool x.has, .bool x.hasEnd, .int .i64 x.st, .int .i64 x.en, .slice A x.props.length c, .slice B x.comps.length c2] 42)) ∧ Hid (∀ p ∈ x.props.take k, KpOk p)) (fun i _ => x.props.length - (RowKit.intOf i).toNat)
        case atStart => exact ⟨0, n - 1, Nat.zero_le _, rfl, by omega, by omega, HL, HO, HX, hI (fun p hp => by simp at hp)⟩
        case round =>
         clear HL HO HX x0 x4 x5 x6 x7 q0 q1 q2
         obtain ⟨k, m, hk, rfl, hm, hmk, HL, HO, HX, HA⟩ := hrel
         obtain ⟨wo, rfl⟩ : ∃ wo : World, wo = wr := ⟨_, rfl⟩
         have hbo : Below w0.heap.size w0 wo := hb0.trans (HO.out.below hz0 (by intro y hy; simp at hy; omega))
         have hso := HO.out.size
         by_cases hlt : k < x.props.length
         ·obtain ⟨p, hpe⟩ : ∃ p, x.props[k]? = some p := ⟨_, List.getElem?_eq_getElem hlt⟩
          obtain ⟨ad, q, V, cv, rfl, htq, hlv, hrv, g0, g1, g2, g3, g4, g5, g6, g7⟩ := at_kPr hp k p hpe
          have g0 := pw_cell_below hbo g0
          have g1 := pw_cell_below hbo g1
          have g2 := pw_cell_below hbo g2
          have g3 := pw_cell_below hbo g3
          have g4 := pw_cell_below hbo g4
          have g5 := pw_cell_below hbo g5
          have g6 := pw_cell_below hbo g6
          have g7 := pw_cell_below hbo g7
          have hpe := hI hpe
          have hw2 : wrap64 (m - 1) = m - 1 := by unfold wrap64; omega
          have hLo := lt_blk HL.out
          have hlp := hrv.2.1
          have hsz1 : (wo.setCell ⟨L, 0, none⟩ (.int .i64 (m - 1))).heap.size = wo.heap.size := by simp [World.setCell]
          have hL1 := set_blk HL.out 0 (.int .i64 (m - 1))
          have hY := new_blk (wo.setCell ⟨L, 0, none⟩ (.int .i64 (m - 1))) (.cells #[.string p.name, .bool p.absent, .bool p.has, .bool p.hasEnd, .int .i64 p.st, .int .i64 p.en, .pointer q, .slice V p.params.length cv] 147)
          rw [hsz1] at hY
          have r0 : wo.cell? ⟨L, 0, none⟩ = some (.int .i64 m) := (cell_blk HL.out 0).trans rfl
          have r1 : wo.frozen? ⟨L, 0, none⟩ = false := frozen_blk HL.out 0 (by omega)
          have r2 : (wo.setCell ⟨L, 0, none⟩ (.int .i64 (m - 1))).cell? ⟨L, 0, none⟩ = some (.int .i64 (m - 1)) := (cell_blk hL1 0).trans rfl
          have htq : TxtAt ((wo.setCell ⟨L, 0, none⟩ (.int .i64 (m - 1))).alloc (.cells #[.string p.name, .bool p.absent, .bool p.has, .bool p.hasEnd, .int .i64 p.st, .int .i64 p.en, .pointer q, .slice V p.params.length cv] 147)) q p.text := htq.below ((hbo.setCell (p := ⟨L, 0, none⟩) (by show w0.heap.size ≤ L; omega) _).alloc (by rw [hsz1]; exact hbo.size) _)
          have y0 : ((wo.setCell ⟨L, 0, none⟩ (.int .i64 (m - 1))).alloc (.cells #[.string p.name, .bool p.absent, .bool p.has, .bool p.hasEnd, .int .i64 p.st, .int .i64 p.en, .pointer q, .slice V p.params.length cv] 147)).cell? ⟨wo.heap.size, 0, none⟩ = some (.string p.name) := (cell_blk hY 0).trans rfl
          have y4 : ((wo.setCell ⟨L, 0, none⟩ (.int .i64 (m - 1))).alloc (.cells #[.string p.name, .bool p.absent, .bool p.has, .bool p.hasEnd, .int .i64 p.st, .int .i64 p.en, .pointer q, .slice V p.params.length cv] 147)).cell? ⟨wo.heap.size, 4, none⟩ = some (.int .i64 p.st) := (cell_blk hY 4).trans rfl
          have y5 : ((wo.setCell ⟨L, 0, none⟩ (.int .i64 (m - 1))).alloc (.cells #[.string p.name, .bool p.absent, .bool p.has, .bool p.hasEnd, .int .i64 p.st, .int .i64 p.en, .pointer q, .slice V p.params.length cv] 147)).cell? ⟨wo.heap.size, 5, none⟩ = some (.int .i64 p.en) := (cell_blk hY 5).trans rfl
          have y6 : ((wo.setCell ⟨L, 0, none⟩ (.int .i64 (m - 1))).alloc (.cells #[.string p.name, .bool p.absent, .bool p.has, .bool p.hasEnd, .int .i64 p.st, .int .i64 p.en, .pointer q, .slice V p.params.length cv] 147)).cell? ⟨wo.heap.size, 6, none⟩ = some (.pointer q) := (cell_blk hY 6).trans rfl
          have y7 : ((wo.setCell ⟨L, 0, none⟩ (.int .i64 (m - 1))).alloc (.cells #[.string p.name, .bool p.absent, .bool p.has, .bool p.hasEnd, .int .i64 p.st, .int .i64 p.en, .pointer q, .slice V p.params.length cv] 147)).cell? ⟨wo.heap.size, 7, none⟩ = some (.slice V p.params.length cv) := (cell_blk hY 7).trans rfl
          have HX := hI (old_blk ((Below.heap_setCell wo ⟨L, 0, none⟩ (.int .i64 (m - 1)) w.heap.size (by show w.heap.size ≠ L; omega)).trans HX.out) (.cells #[.string p.name, .bool p.absent, .bool p.has, .bool p.hasEnd, .int .i64 p.st, .int .i64 p.en, .pointer q, .slice V p.params.length cv] 147))
          have HO := hI ((HO.out.setCell (p := ⟨L, 0, none⟩) (by simp) (.int .i64 (m - 1))).alloc (.cells #[.string p.name, .bool p.absent, .bool p.has, .bool p.hasEnd, .int .i64 p.st, .int .i64 p.en, .pointer q, .slice V p.params.length cv] 147))
          have HL := hI (old_blk hL1 (.cells #[.string p.name, .bool p.absent, .bool p.has, .bool p.hasEnd, .int .i64 p.st, .int .i64 p.en, .pointer q, .slice V p.params.length cv] 147))
          clear hL1 hY hsz1
          by_cases hc1 : m - 1 < 0
          ·skip
           go_wp2
           go_ret
           exact ⟨false, _, rfl, HL.out, HO.out, fun h => nomatch h⟩
          ·have hc1' : 0 ≤ m - 1 := by omega
           by_cases hc2 : p.params.length > 10
           ·have hc2' : (10 : Int) < (p.params.length : Int) := by omega
            go_wp2
            go_ret
            exact ⟨false, _, rfl, HL.out, HO.out, fun h => nomatch h⟩
           ·have hc2' : ¬ (10 : Int) < (p.params.length : Int) := by omega
            by_cases hc3 : p.name.size > 50
            ·have hc3' : (50 : Int) < (p.name.size : Int) := by omega
             go_wp2
             go_ret
             exact ⟨false, _, rfl, HL.out, HO.out, fun h => nomatch h⟩
            ·have hc3' : ¬ (50 : Int) < (p.name.size : Int) := by omega
             cases hps : secB p.st with
             | false =>
              go_wp2_with (first | (with_reducible refine (ksec p.st _ _ hps).mono ?_; rintro _ _ ⟨rfl, rfl⟩))
              go_ret
              exact ⟨false, _, rfl, HL.out, HO.out, fun h => nomatch h⟩
             | true =>
              cases hpn : secB p.en with
              | false =>
               go_wp2_with (first | (with_reducible refine (ksec p.st _ _ hps).mono ?_; rintro _ _ ⟨rfl, rfl⟩) | (with_reducible refine (ksec p.en _ _ hpn).mono ?_; rintro _ _ ⟨rfl, rfl⟩))
               go_ret
               exact ⟨false, _, rfl, HL.out, HO.out, fun h => nomatch h⟩
              | true =>
               cases htx : p.text with
               | none =>
                obtain rfl : q = none := by rw [htx] at htq; exact htq
                have hpt : Hid (∀ t, p.text = some t → t.1.size ≤ 200) := hI (fun t ht => by rw [htx] at ht; cases ht)
                clear htq htx
                go_wp2_with (first | (with_reducible refine (ksec p.st _ _ hps).mono ?_; rintro _ _ ⟨rfl, rfl⟩) | (with_reducible refine (ksec p.en _ _ hpn).mono ?_; rintro _ _ ⟨rfl, rfl⟩))
                clear y7
                go_loopw [107] (fun i wr => ∃ j : Nat, j ≤ p.params.length ∧ i = .int .i64 j ∧ Hid (wr.heap[L]? = some (.cells #[.int .i64 (m - 1)] 3)) ∧ Hid (Only [L] w wr) ∧ Hid (wr.heap[w.heap.size]? = some (.cells #[.string x.name, .bool x.absent, .bool x.has, .bool x.hasEnd, .int .i64 x.st, .int .i64 x.en, .slice (some ad) x.props.length c, .slice B x.comps.length c2] 42)) ∧ Hid (∀ q ∈ p.params.take j, KaOk q)) (fun i _ => p.params.length - (RowKit.intOf i).toNat)
                case atStart => exact ⟨0, Nat.zero_le _, rfl, HL, HO, HX, hI (fun q hq => by simp at hq)⟩
                case round =>
                 clear HL HO HX
                 obtain ⟨j, hj, rfl, HL, HO, HX, HA2⟩ := hrel
                 obtain ⟨wi, rfl⟩ : ∃ wi : World, wi = wr := ⟨_, rfl⟩
                 have hbi : Below w0.heap.size w0 wi := hb0.trans (HO.out.below hz0 (by intro y hy; simp at hy; omega))
                 by_cases hjt : j < p.params.length
                 ·obtain ⟨y, hye⟩ : ∃ y, p.params[j]? = some y := ⟨_, List.getElem?_eq_getElem hjt⟩
                  obtain ⟨ad2, q2, rfl, hty, g0, g1, g2⟩ := at_kPa hrv j y hye
                  have g0 := pw_cell_below hbi g0
                  have g1 := pw_cell_below hbi g1
                  have g2 := pw_cell_below hbi g2
                  have hty := (hty.below hbi).below (below_alloc (Below.refl _ _) (.cells #[.string y.name, .bool y.absent, .pointer q2] 158))
                  have hye := hI hye
                  by_cases hyn : y.name.size > 50
                  ·have hyn' : (50 : Int) < (y.name.size : Int) := by omega
                   clear hty
                   have HL := hI (old_blk HL.out (.cells #[.string y.name, .bool y.absent, .pointer q2] 158))
                   have HO := hI (HO.out.alloc (.cells #[.string y.name, .bool y.absent, .pointer q2] 158))
                   go_wp2
                   go_ret
                   exact ⟨false, _, rfl, HL.out, HO.out, fun h => nomatch h⟩
                  ·have hyn' : ¬ (50 : Int) < (y.name.size : Int) := by omega
                   cases htx : y.text with
                   | none =>
                    obtain rfl : q2 = none := by rw [htx] at hty; exact hty
                    have hyt : Hid (∀ t, y.text = some t → t.1.size ≤ 200) := hI (fun t ht => by rw [htx] at ht; cases ht)
                    clear hty htx
                    have HA4 : Hid (∀ q ∈ p.params.take (j + 1), KaOk q) := hI (by
                     rw [take_snoc' _ _ _ hye.out]
                     intro q' hq'
                     rcases List.mem_append.1 hq' with h | h
                     ·exact HA2.out q' h
                     ·rw [List.mem_singleton.1 h]; exact ⟨by omega, by intro t' ht'; have := hyt.out t' ht'; omega⟩)
                    have HL := hI (old_blk HL.out (.cells #[.string y.name, .bool y.absent, .pointer none] 158))
                    have HO := hI (HO.out.alloc (.cells #[.string y.name, .bool y.absent, .pointer none] 158))
                    have HX := hI (old_blk HX.out (.cells #[.string y.name, .bool y.absent, .pointer none] 158))
                    go_wp2
                    exact ⟨⟨j + 1, by omega, by go_num, HL, HO, HX, HA4⟩, by simp [RowKit.intOf]; omega⟩
                   | some t =>
                    rw [htx] at hty
                    obtain ⟨tb, tof, rfl, t0, t1⟩ := hty
                    by_cases htl : t.1.size > 200
                    ·have htl' : (200 : Int) < (t.1.size : Int) := by omega
                     clear htx t1
                     have HL := hI (old_blk HL.out (.cells #[.string y.name, .bool y.absent, .pointer (some ⟨tb, tof, none⟩)] 158))
                     have HO := hI (HO.out.alloc (.cells #[.string y.name, .bool y.absent, .pointer (some ⟨tb, tof, none⟩)] 158))
                     go_wp2
                     go_ret
                     exact ⟨false, _, rfl, HL.out, HO.out, fun h => nomatch h⟩
                    ·have htl' : ¬ (200 : Int) < (t.1.size : Int) := by omega
                     have hyt : Hid (∀ t, y.text = some t → t.1.size ≤ 200) := hI (fun t' ht => by rw [htx] at ht; injection ht with ht; subst ht; omega)
                     clear htx t1
                     have HA4 : Hid (∀ q ∈ p.params.take (j + 1), KaOk q) := hI (by
                      rw [take_snoc' _ _ _ hye.out]
                      intro q' hq'
                      rcases List.mem_append.1 hq' with h | h
                      ·exact HA2.out q' h
                      ·rw [List.mem_singleton.1 h]; exact ⟨by omega, by intro t' ht'; have := hyt.out t' ht'; omega⟩)
                     have HL := hI (old_blk HL.out (.cells #[.string y.name, .bool y.absent, .pointer (some ⟨tb, tof, none⟩)] 158))
                     have HO := hI (HO.out.alloc (.cells #[.string y.name, .bool y.absent, .pointer (some ⟨tb, tof, none⟩)] 158))
                     have HX := hI (old_blk HX.out (.cells #[.string y.name, .bool y.absent, .pointer (some ⟨tb, tof, none⟩)] 158))
                     go_wp2
                     exact ⟨⟨j + 1, by omega, by go_num, HL, HO, HX, HA4⟩, by simp [RowKit.intOf]; omega⟩
                 ·obtain rfl : j = p.params.length := by omega
                  have h3 := HA2.out
                  rw [List.take_length] at h3
                  have HA4 : Hid (∀ p ∈ x.props.take (k + 1), KpOk p) := hI (by
                   rw [take_snoc' _ _ _ hpe.out]
                   intro p' hp'
                   rcases List.mem_append.1 hp' with h | h
                   ·exact HA.out p' h
                   ·rw [List.mem_singleton.1 h]; exact ⟨by omega, secB_true hps, secB_true hpn, hpt.out, by omega, h3⟩)
                  clear h3 HA2
                  go_wp2
                  exact ⟨⟨k + 1, m - 1, by omega, by go_num, by omega, by omega, HL, HO, HX, HA4⟩, by simp [RowKit.intOf]; omega⟩
               | some t =>
                rw [htx] at htq
                obtain ⟨tb, tof, rfl, t0, t1⟩ := htq
                by_cases htl : t.1.size > 200
                ·have htl' : (200 : Int) < (t.1.size : Int) := by omega
                 clear htx t1
                 go_wp2_with (first | (with_reducible refine (ksec p.st _ _ hps).mono ?_; rintro _ _ ⟨rfl, rfl⟩) | (with_reducible refine (ksec p.en _ _ hpn).mono ?_; rintro _ _ ⟨rfl, rfl⟩))
                 go_ret
                 exact ⟨false, _, rfl, HL.out, HO.out, fun h => nomatch h⟩
                ·have htl' : ¬ (200 : Int) < (t.1.size : Int) := by omega
                 have hpt : Hid (∀ t, p.text = some t → t.1.size ≤ 200) := hI (fun t' ht => by rw [htx] at ht; injection ht with ht; subst ht; omega)
                 clear htx t1
                 go_wp2_with (first | (with_reducible refine (ksec p.st _ _ hps).mono ?_; rintro _ _ ⟨rfl, rfl⟩) | (with_reducible refine (ksec p.en _ _ hpn).mono ?_; rintro _ _ ⟨rfl, rfl⟩))
                 clear y7
                 go_loopw [107] (fun i wr => ∃ j : Nat, j ≤ p.params.length ∧ i = .int .i64 j ∧ Hid (wr.heap[L]? = some (.cells #[.int .i64 (m - 1)] 3)) ∧ Hid (Only [L] w wr) ∧ Hid (wr.heap[w.heap.size]? = some (.cells #[.string x.name, .bool x.absent, .bool x.has, .bool x.hasEnd, .int .i64 x.st, .int .i64 x.en, .slice (some ad) x.props.length c, .slice B x.comps.length c2] 42)) ∧ Hid (∀ q ∈ p.params.take j, KaOk q)) (fun i _ => p.params.length - (RowKit.intOf i).toNat)
                 case atStart => exact ⟨0, Nat.zero_le _, rfl, HL, HO, HX, hI (fun q hq => by simp at hq)⟩
                 case round =>
                  clear HL HO HX
                  obtain ⟨j, hj, rfl, HL, HO, HX, HA2⟩ := hrel
                  obtain ⟨wi, rfl⟩ : ∃ wi : World, wi = wr := ⟨_, rfl⟩
                  have hbi : Below w0.heap.size w0 wi := hb0.trans (HO.out.below hz0 (by intro y hy; simp at hy; omega))
                  by_cases hjt : j < p.params.length
                  ·obtain ⟨y, hye⟩ : ∃ y, p.params[j]? = some y := ⟨_, List.getElem?_eq_getElem hjt⟩
                   obtain ⟨ad2, q2, rfl, hty, g0, g1, g2⟩ := at_kPa hrv j y hye
                   have g0 := pw_cell_below hbi g0
                   have g1 := pw_cell_below hbi g1
                   have g2 := pw_cell_below hbi g2
                   have hty := (hty.below hbi).below (below_alloc (Below.refl _ _) (.cells #[.string y.name, .bool y.absent, .pointer q2] 158))
                   have hye := hI hye
                   by_cases hyn : y.name.size > 50
                   ·have hyn' : (50 : Int) < (y.name.size : Int) := by omega
                    clear hty
                    have HL := hI (old_blk HL.out (.cells #[.string y.name, .bool y.absent, .pointer q2] 158))
                    have HO := hI (HO.out.alloc (.cells #[.string y.name, .bool y.absent, .pointer q2] 158))
                    go_wp2
                    go_ret
                    exact ⟨false, _, rfl, HL.out, HO.out, fun h => nomatch h⟩
                   ·have hyn' : ¬ (50 : Int) < (y.name.size : Int) := by omega
                    cases htx : y.text with
                    | none =>
                     obtain rfl : q2 = none := by rw [htx] at hty; exact hty
                     have hyt : Hid (∀ t, y.text = some t → t.1.size ≤ 200) := hI (fun t ht => by rw [htx] at ht; cases ht)
                     clear hty htx
                     have HA4 : Hid (∀ q ∈ p.params.take (j + 1), KaOk q) := hI (by
                      rw [take_snoc' _ _ _ hye.out]
                      intro q' hq'
                      rcases List.mem_append.1 hq' with h | h
                      ·exact HA2.out q' h
                      ·rw [List.mem_singleton.1 h]; exact ⟨by omega, by intro t' ht'; have := hyt.out t' ht'; omega⟩)
                     have HL := hI (old_blk HL.out (.cells #[.string y.name, .bool y.absent, .pointer none] 158))
                     have HO := hI (HO.out.alloc (.cells #[.string y.name, .bool y.absent, .pointer none] 158))
                     have HX := hI (old_blk HX.out (.cells #[.string y.name, .bool y.absent, .pointer none] 158))
                     go_wp2
                     exact ⟨⟨j + 1, by omega, by go_num, HL, HO, HX, HA4⟩, by simp [RowKit.intOf]; omega⟩
                    | some t =>
                     rw [htx] at hty
                     obtain ⟨tb, tof, rfl, t0, t1⟩ := hty
                     by_cases htl : t.1.size > 200
                     ·have htl' : (200 : Int) < (t.1.size : Int) := by omega
                      clear htx t1
                      have HL := hI (old_blk HL.out (.cells #[.string y.name, .bool y.absent, .pointer (some ⟨tb, tof, none⟩)] 158))
                      have HO := hI (HO.out.alloc (.cells #[.string y.name, .bool y.absent, .pointer (some ⟨tb, tof, none⟩)] 158))
                      go_wp2
                      go_ret
                      exact ⟨false, _, rfl, HL.out, HO.out, fun h => nomatch h⟩
                     ·have htl' : ¬ (200 : Int) < (t.1.size : Int) := by omega
                      have hyt : Hid (∀ t, y.text = some t → t.1.size ≤ 200) := hI (fun t' ht => by rw [htx] at ht; injection ht with ht; subst ht; omega)
                      clear htx t1
                      have HA4 : Hid (∀ q ∈ p.params.take (j + 1), KaOk q) := hI (by
                       rw [take_snoc' _ _ _ hye.out]
                       intro q' hq'
                       rcases List.mem_append.1 hq' with h | h
                       ·exact HA2.out q' h
                       ·rw [List.mem_singleton.1 h]; exact ⟨by omega, by intro t' ht'; have := hyt.out t' ht'; omega⟩)
                      have HL := hI (old_blk HL.out (.cells #[.string y.name, .bool y.absent, .pointer (some ⟨tb, tof, none⟩)] 158))
                      have HO := hI (HO.out.alloc (.cells #[.string y.name, .bool y.absent, .pointer (some ⟨tb, tof, none⟩)] 158))
                      have HX := hI (old_blk HX.out (.cells #[.string y.name, .bool y.absent, .pointer (some ⟨tb, tof, none⟩)] 158))
                      go_wp2
                      exact ⟨⟨j + 1, by omega, by go_num, HL, HO, HX, HA4⟩, by simp [RowKit.intOf]; omega⟩
                  ·obtain rfl : j = p.params.length := by omega
                   have h3 := HA2.out
                   rw [List.take_length] at h3
                   have HA4 : Hid (∀ p ∈ x.props.take (k + 1), KpOk p) := hI (by
                    rw [take_snoc' _ _ _ hpe.out]
                    intro p' hp'
                    rcases List.mem_append.1 hp' with h | h
                    ·exact HA.out p' h
                    ·rw [List.mem_singleton.1 h]; exact ⟨by omega, secB_true hps, secB_true hpn, hpt.out, by omega, h3⟩)
                   clear h3 HA2
                   go_wp2
                   exact ⟨⟨k + 1, m - 1, by omega, by go_num, by omega, by omega, HL, HO, HX, HA4⟩, by simp [RowKit.intOf]; omega⟩
         ·obtain rfl : k = x.props.length := by omega
          have h3 := HA.out
          rw [List.take_length] at h3
          have HP := hI h3
          obtain ⟨m2, hm2⟩ : ∃ m2, m2 = m := ⟨_, rfl⟩
          rw [← hm2] at HL hm hmk
          have hm0 := hm
          have c7 : wo.cell? ⟨w.heap.size, 7, none⟩ = some (.slice B x.comps.length c2) := (cell_blk HX.out 7).trans rfl
          clear h3 HA HX hm2 hm
          go_wp2_with fail
          clear c7
          go_loopw [134] (fun i wr => ∃ (k : Nat) (m : Int), k ≤ x.comps.length ∧ i = .int .i64 k ∧ 0 ≤ m ∧ m + k ≤ m2 ∧ Hid (wr.heap[L]? = some (.cells #[.int .i64 m] 3)) ∧ Hid (Only [L] w wr) ∧ Hid (∀ g ∈ x.comps.take k, KOk g)) (fun i _ => x.comps.length - (RowKit.intOf i).toNat)
          case atStart => exact ⟨0, m2, Nat.zero_le _, rfl, hm0, by omega, HL, HO, hI (fun g hg => by simp at hg)⟩
          case round =>
           clear HL HO
           obtain ⟨k, m, hk, rfl, hm, hmk, HL, HO, HA3⟩ := hrel
           obtain ⟨wo, rfl⟩ : ∃ wo : World, wo = wr := ⟨_, rfl⟩
           have hbo : Below w0.heap.size w0 wo := hb0.trans (HO.out.below hz0 (by intro y hy; simp at hy; omega))
           by_cases hlt : k < x.comps.length
           ·obtain ⟨g, hge⟩ : ∃ g, x.comps[k]? = some g := ⟨_, List.getElem?_eq_getElem hlt⟩
            have hgm := List.mem_of_getElem? hge
            obtain ⟨ad, V, cv, V2, cv2, rfl, hlv, hrv, hlv2, hrv2, g0, g1, g2, g3, g4, g5, g6, g7⟩ := at_kCo hkk k g hge
            have g0 := pw_cell_below hbo g0
            have g1 := pw_cell_below hbo g1
            have g2 := pw_cell_below hbo g2
            have g3 := pw_cell_below hbo g3
            have g4 := pw_cell_below hbo g4
            have g5 := pw_cell_below hbo g5
            have g6 := pw_cell_below hbo g6
            have g7 := pw_cell_below hbo g7
            have hge := hI hge
            have hwd : wrap64 (d - 1) = d - 1 := by unfold wrap64; omega
            go_wp2_with fail
            have hb1 := below_alloc (Below.refl wo.heap.size wo) (.cells #[.string g.name, .bool g.absent, .bool g.has, .bool g.hasEnd, .int .i64 g.st, .int .i64 g.en, .slice V g.props.length cv, .slice V2 g.comps.length cv2] 42)
            refine (ih g (by have := comp_lt x g hgm; have := hN.out; omega) V V2 cv cv2 (d - 1) (by omega) (by omega) L m hm (by omega) w0 _ (hbo.trans (hb1.mono hbo.size)) hL0 (old_blk HL.out _) hrv hrv2).mono ?_
            rintro _ w5 ⟨b, m', rfl, hl5, ho5, hgr⟩
            have HL := hI hl5
            have HO := hI ((HO.out.alloc _).trans ho5)
            clear hl5 ho5 hb1 g0 g1 g2 g3 g4 g5 g6 g7 hwd
            cases b with
            | false =>
             clear hgr
             go_wp2
             go_ret
             exact ⟨false, m', rfl, HL.out, HO.out, fun h => nomatch h⟩
            | true =>
             obtain ⟨r1, r2, r3⟩ := hgr rfl
             have HA4 : Hid (∀ g ∈ x.comps.take (k + 1), KOk g) := hI (by
              rw [take_snoc' _ _ _ hge.out]
              intro g' hg'
              rcases List.mem_append.1 hg' with h | h
              ·exact HA3.out g' h
              ·rw [List.mem_singleton.1 h]; exact r3)
             clear hgr r3
             go_wp2
             exact ⟨⟨k + 1, m', by omega, by go_num, r1, by omega, HL, HO, HA4⟩, by simp [RowKit.intOf]; omega⟩
           ·obtain rfl : k = x.comps.length := by omega
            have h3 := HA3.out
            rw [List.take_length] at h3
            have hfin := hI (KOk.mk x (by omega) (secB_true hs1) (secB_true he1) (by omega) (by omega) HP.out h3)
            clear h3 HA3 HP
            go_wp2
            go_ret
            exact ⟨true, m, rfl, HL.out, HO.out, fun _ => ⟨hm, by omega, hfin.out⟩⟩
end Go.Proofs.YtcllaplddebilaaGreatDoor

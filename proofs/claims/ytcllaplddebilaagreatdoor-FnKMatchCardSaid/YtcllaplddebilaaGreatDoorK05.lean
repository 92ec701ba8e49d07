/- laws.FnKMatch: a part of the proof: INeat. -/
import Derived.Test.YtcllaplddebilaaGreatDoorK04
set_option maxRecDepth 1000000
set_option maxHeartbeats 64000000
set_option linter.unusedVariables false
set_option linter.unusedSimpArgs false
namespace Go.Proofs.YtcllaplddebilaaGreatDoor
open Go.RowKit Go.Sort
attribute [local go_sem] cell?_grow frozen?_grow cell?_redrawn frozen?_redrawn size_redrawn size_grow ba_get ba_extract
attribute [local simp] size_redrawn
open Go.Lib Go.Proofs.YtcllaplddebilaaGreatDoorW.PrintWords Go.Proofs.YtcllaplddebilaaGreatDoorW.PrintLast Go.Proofs.YtcllaplddebilaaGreatDoorW.PrintMore PFnKMatch
theorem ineat (N : Nat) : ∀ (x : S36) (_ : SizeOf.sizeOf x ≤ N) (_ : AllC reachC x) (_ : AllC okC x) (A B : Option Addr) (c c2 : Nat) (w : World) (_ : k75.C w A x.f1.length x.f1) (_ : k36.C w B x.f2.length x.f2),
  Calls Tryz.prog 34 #[.agg #[.string x.f0, .slice A x.f1.length c, .slice B x.f2.length c2]] w (AnyB w) := by
 induction N with
 | zero => intro x h; cases x; simp at h
 | succ N ih =>
  intro x hN0 hR0 hO0 A B c c2 w hp hkk
  have hr0 := hR0.here.1
  have hl1 := hp.2.1
  have hl2 := hkk.2.1
  have hN := hI hN0
  have hR := hI hR0
  have hO := hI hO0
  clear hN0 hR0 hO0
  have HB1 := hI ((Below.refl w.heap.size w).alloc (Nat.le_refl _) (.cells #[.string x.f0, .slice A x.f1.length c, .slice B x.f2.length c2] 36))
  cases hn : nameB x.f0 with
  | false =>
   go_enter Tryz.func34, Tryz.ntmps34
   go_wp2_with fail
   refine wp_region_quiet_below (by kernel_rfl) (by kernel_rfl) ?_; (repeat (first | go_big_quiet_step ((first | (go_at_call 64; exact Calls.regrown_of (iname_is _ _ hr0)) | (go_at_call 65; exact Calls.regrown_of (upper_spec _ _ hr0)))) | quiet_step ((first | (go_at_call 64; exact Calls.regrown_of (iname_is _ _ hr0)) | (go_at_call 65; exact Calls.regrown_of (upper_spec _ _ hr0)))))); refine wpQuiet_nil ?_; intro wq hw'; obtain ⟨⟨dq, osq⟩, hw''⟩ := hw'; have hbq := below_quiet hw''; clear hw''
   have HB := hI (HB1.out.trans (hbq.mono HB1.out.size))
   go_wp2
   go_ret
   exact ⟨_, rfl, HB.out⟩
  | true =>
   cases he : (x.f0.toList == (upper x.f0).toList) with
   | false =>
    go_enter Tryz.func34, Tryz.ntmps34
    go_wp2_with fail
    refine wp_region_quiet_below (by kernel_rfl) (by kernel_rfl) ?_; (repeat (first | go_big_quiet_step ((first | (go_at_call 64; exact Calls.regrown_of (iname_is _ _ hr0)) | (go_at_call 65; exact Calls.regrown_of (upper_spec _ _ hr0)))) | quiet_step ((first | (go_at_call 64; exact Calls.regrown_of (iname_is _ _ hr0)) | (go_at_call 65; exact Calls.regrown_of (upper_spec _ _ hr0)))))); refine wpQuiet_nil ?_; intro wq hw'; obtain ⟨⟨dq, osq⟩, hw''⟩ := hw'; have hbq := below_quiet hw''; clear hw''
    have HB := hI (HB1.out.trans (hbq.mono HB1.out.size))
    go_wp2
    go_ret
    exact ⟨_, rfl, HB.out⟩
   | true =>
    go_enter Tryz.func34, Tryz.ntmps34
    go_wp2_with fail
    refine wp_region_quiet_below (by kernel_rfl) (by kernel_rfl) ?_; (repeat (first | go_big_quiet_step ((first | (go_at_call 64; exact Calls.regrown_of (iname_is _ _ hr0)) | (go_at_call 65; exact Calls.regrown_of (upper_spec _ _ hr0)))) | quiet_step ((first | (go_at_call 64; exact Calls.regrown_of (iname_is _ _ hr0)) | (go_at_call 65; exact Calls.regrown_of (upper_spec _ _ hr0)))))); refine wpQuiet_nil ?_; intro wq hw'; obtain ⟨⟨dq, osq⟩, hw''⟩ := hw'; have hbq := below_quiet hw''; clear hw''
    have HB := hI (HB1.out.trans (hbq.mono HB1.out.size))
    have HX := hI (below_blk hbq (new_blk w _) : wq.heap[w.heap.size]? = some (.cells #[.string x.f0, .slice A x.f1.length c, .slice B x.f2.length c2] 36))
    have c1 : wq.cell? ⟨w.heap.size, 1, none⟩ = some (.slice A x.f1.length c) := (cell_blk HX.out 1).trans rfl
    clear hbq hn he
    go_wp2_with fail
    obtain ⟨ws, hws⟩ : ∃ ws, ws = wq := ⟨_, rfl⟩
    rw [← hws] at HX HB c1 ⊢
    clear hws
    go_loopw [27] (fun i wr => ∃ k : Nat, k ≤ x.f1.length ∧ i = .int .i64 k ∧ Hid (Below ws.heap.size ws wr)) (fun i _ => x.f1.length - (RowKit.intOf i).toNat)
    case atStart => exact ⟨0, Nat.zero_le _, rfl, hI (Below.refl _ _)⟩
    case round =>
     have HBS := HB
     have HXS := HX
     clear HB HX c1
     obtain ⟨k, hk, rfl, HBW⟩ := hrel
     have HB := hI (HBS.out.trans (HBW.out.mono HBS.out.size))
     have HX := hI (below_blk HBW.out HXS.out)
     obtain ⟨wo, rfl⟩ : ∃ wo : World, wo = wr := ⟨_, rfl⟩
     by_cases hlt : k < x.f1.length
     ·obtain ⟨p, hpe⟩ : ∃ p, x.f1[k]? = some p := ⟨_, List.getElem?_eq_getElem hlt⟩
      have hpm := List.mem_of_getElem? hpe
      obtain ⟨ad, Q, cq, rfl, hlq, hrq, g0, g1, g2⟩ := at75 (Kd.C_below hp HB.out) k p hpe
      have hpo : okP p := hO.out.here.2.2 p hpm
      have hps : p.f0.size ≤ 140737488351232 := by have := hpo.1; omega
      have hpv : p.f2.size ≤ 140737488351232 := by have := hpo.2.1; omega
      have hlq2 := hrq.2.1
      have HRQ := hI hrq
      have HPO := hI hpo
      clear hrq hpo hpm hpe
      go_upto_region 6 with (fail)
      have hb1 := below_alloc (Below.refl wo.heap.size wo) (.cells #[.string p.f0, .slice Q p.f1.length cq, .string p.f2] 75)
      have hp1 := new_blk wo (.cells #[.string p.f0, .slice Q p.f1.length cq, .string p.f2] 75)
      have hx1 := old_blk HX.out (.cells #[.string p.f0, .slice Q p.f1.length cq, .string p.f2] 75)
      generalize hwx : wo.alloc _ = wx at hb1 hp1 hx1 ⊢
      obtain ⟨L, hL⟩ : ∃ L, L = wo.heap.size := ⟨_, rfl⟩
      rw [← hL] at hp1 ⊢
      have HRQ := hI (Kd.C_below HRQ.out hb1)
      have HBW := hI (HBW.out.trans (hb1.mono HBW.out.size))
      have HB := hI (HB.out.trans (hb1.mono HB.out.size))
      have HX := hI hx1
      have HP := hI hp1
      clear hb1 hp1 hx1 hwx g0 g1 g2 hL
      have x1 : ∀ d os, (grow (redrawn wx d) os).cell? ⟨w.heap.size, 1, none⟩ = some (.slice (some ad) x.f1.length c) := fun d os => pw_cell_below (below_regrown _ _ _) ((cell_blk HX.out 1).trans rfl)
      have p0 : ∀ d os, (grow (redrawn wx d) os).cell? ⟨L, 0, none⟩ = some (.string p.f0) := fun d os => pw_cell_below (below_regrown _ _ _) ((cell_blk HP.out 0).trans rfl)
      have p2 : ∀ d os, (grow (redrawn wx d) os).cell? ⟨L, 2, none⟩ = some (.string p.f2) := fun d os => pw_cell_below (below_regrown _ _ _) ((cell_blk HP.out 2).trans rfl)
      go_cut [75] (fun s wy => ∃ b : Bool, s = .bool b ∧ Hid (Below wx.heap.size wx wy))
      case first =>
       as_aux_lemma =>
        cases hn : nameB p.f0 with
        | false =>
         refine wp_region_quiet_below (by kernel_rfl) (by kernel_rfl) ?_; (repeat (first | go_big_quiet_step ((first | (go_at_call 64; exact Calls.regrown_of (iname_is _ _ hps)) | (go_at_call 65; exact Calls.regrown_of (upper_spec _ _ hps)) | (go_at_call 66; exact Calls.regrown_of (iplain_is _ _ hpv)))) | quiet_step ((first | (go_at_call 64; exact Calls.regrown_of (iname_is _ _ hps)) | (go_at_call 65; exact Calls.regrown_of (upper_spec _ _ hps)) | (go_at_call 66; exact Calls.regrown_of (iplain_is _ _ hpv)))))); refine wpQuiet_nil ?_; intro wq hw'; obtain ⟨⟨dq, osq⟩, hw''⟩ := hw'; have hbq := below_quiet hw''; clear hw''
         have HB2 := hI hbq
         clear hbq
         go_wp2_with fail
         go_meet
         exact ⟨_, rfl, HB2⟩
        | true =>
         cases he : (p.f0.toList == (upper p.f0).toList) with
         | false =>
          refine wp_region_quiet_below (by kernel_rfl) (by kernel_rfl) ?_; (repeat (first | go_big_quiet_step ((first | (go_at_call 64; exact Calls.regrown_of (iname_is _ _ hps)) | (go_at_call 65; exact Calls.regrown_of (upper_spec _ _ hps)) | (go_at_call 66; exact Calls.regrown_of (iplain_is _ _ hpv)))) | quiet_step ((first | (go_at_call 64; exact Calls.regrown_of (iname_is _ _ hps)) | (go_at_call 65; exact Calls.regrown_of (upper_spec _ _ hps)) | (go_at_call 66; exact Calls.regrown_of (iplain_is _ _ hpv)))))); refine wpQuiet_nil ?_; intro wq hw'; obtain ⟨⟨dq, osq⟩, hw''⟩ := hw'; have hbq := below_quiet hw''; clear hw''
          have HB2 := hI hbq
          clear hbq
          go_wp2_with fail
          go_meet
          exact ⟨_, rfl, HB2⟩
         | true =>
          cases h3 : (p.f0.toList == [66, 69, 71, 73, 78]) with
          | true =>
           refine wp_region_quiet_below (by kernel_rfl) (by kernel_rfl) ?_; (repeat (first | go_big_quiet_step ((first | (go_at_call 64; exact Calls.regrown_of (iname_is _ _ hps)) | (go_at_call 65; exact Calls.regrown_of (upper_spec _ _ hps)) | (go_at_call 66; exact Calls.regrown_of (iplain_is _ _ hpv)))) | quiet_step ((first | (go_at_call 64; exact Calls.regrown_of (iname_is _ _ hps)) | (go_at_call 65; exact Calls.regrown_of (upper_spec _ _ hps)) | (go_at_call 66; exact Calls.regrown_of (iplain_is _ _ hpv)))))); refine wpQuiet_nil ?_; intro wq hw'; obtain ⟨⟨dq, osq⟩, hw''⟩ := hw'; have hbq := below_quiet hw''; clear hw''
           have HB2 := hI hbq
           clear hbq
           go_wp2_with fail
           go_meet
           exact ⟨_, rfl, HB2⟩
          | false =>
           cases h4 : (p.f0.toList == [69, 78, 68]) with
           | true =>
            refine wp_region_quiet_below (by kernel_rfl) (by kernel_rfl) ?_; (repeat (first | go_big_quiet_step ((first | (go_at_call 64; exact Calls.regrown_of (iname_is _ _ hps)) | (go_at_call 65; exact Calls.regrown_of (upper_spec _ _ hps)) | (go_at_call 66; exact Calls.regrown_of (iplain_is _ _ hpv)))) | quiet_step ((first | (go_at_call 64; exact Calls.regrown_of (iname_is _ _ hps)) | (go_at_call 65; exact Calls.regrown_of (upper_spec _ _ hps)) | (go_at_call 66; exact Calls.regrown_of (iplain_is _ _ hpv)))))); refine wpQuiet_nil ?_; intro wq hw'; obtain ⟨⟨dq, osq⟩, hw''⟩ := hw'; have hbq := below_quiet hw''; clear hw''
            have HB2 := hI hbq
            clear hbq
            go_wp2_with fail
            go_meet
            exact ⟨_, rfl, HB2⟩
           | false =>
            cases h5 : plainB p.f2 with
            | false =>
             refine wp_region_quiet_below (by kernel_rfl) (by kernel_rfl) ?_; (repeat (first | go_big_quiet_step ((first | (go_at_call 64; exact Calls.regrown_of (iname_is _ _ hps)) | (go_at_call 65; exact Calls.regrown_of (upper_spec _ _ hps)) | (go_at_call 66; exact Calls.regrown_of (iplain_is _ _ hpv)))) | quiet_step ((first | (go_at_call 64; exact Calls.regrown_of (iname_is _ _ hps)) | (go_at_call 65; exact Calls.regrown_of (upper_spec _ _ hps)) | (go_at_call 66; exact Calls.regrown_of (iplain_is _ _ hpv)))))); refine wpQuiet_nil ?_; intro wq hw'; obtain ⟨⟨dq, osq⟩, hw''⟩ := hw'; have hbq := below_quiet hw''; clear hw''
             have HB2 := hI hbq
             clear hbq
             go_wp2_with fail
             go_meet
             exact ⟨_, rfl, HB2⟩
            | true =>
             cases k with
             | zero =>
              refine wp_region_quiet_below (by kernel_rfl) (by kernel_rfl) ?_; (repeat (first | go_big_quiet_step ((first | (go_at_call 64; exact Calls.regrown_of (iname_is _ _ hps)) | (go_at_call 65; exact Calls.regrown_of (upper_spec _ _ hps)) | (go_at_call 66; exact Calls.regrown_of (iplain_is _ _ hpv)))) | quiet_step ((first | (go_at_call 64; exact Calls.regrown_of (iname_is _ _ hps)) | (go_at_call 65; exact Calls.regrown_of (upper_spec _ _ hps)) | (go_at_call 66; exact Calls.regrown_of (iplain_is _ _ hpv)))))); refine wpQuiet_nil ?_; intro wq hw'; obtain ⟨⟨dq, osq⟩, hw''⟩ := hw'; have hbq := below_quiet hw''; clear hw''
              have HB2 := hI hbq
              clear hbq
              go_wp2_with fail
              go_meet
              exact ⟨_, rfl, HB2⟩
             | succ k =>
              obtain ⟨p1, hp1⟩ : ∃ p1, x.f1[k]? = some p1 := ⟨_, List.getElem?_eq_getElem (by omega)⟩
              obtain ⟨ad1, Q1, cq1, e1, -, -, g3, -, -⟩ := at75 (Kd.C_below hp HB.out) k p1 hp1
              obtain rfl : ad = ad1 := Option.some.inj e1
              have hpos : decide ((0 : Int) < ((k + 1 : Nat) : Int)) = true := decide_eq_true (by omega)
              have hwr : wrap64 (((k + 1 : Nat) : Int) - 1) = (k : Int) := by unfold wrap64; omega
              have hkl : k < x.f1.length := by omega
              have g3 : ∀ d os, (grow (redrawn wx d) os).cell? (ad.add (k * 3)) = some (.string p1.f0) := fun d os => pw_cell_below (below_regrown _ _ _) g3
              clear hp1 e1
              refine wp_region_quiet_below (by kernel_rfl) (by kernel_rfl) ?_; (repeat (first | go_big_quiet_step ((first | (go_at_call 64; exact Calls.regrown_of (iname_is _ _ hps)) | (go_at_call 65; exact Calls.regrown_of (upper_spec _ _ hps)) | (go_at_call 66; exact Calls.regrown_of (iplain_is _ _ hpv)))) | quiet_step ((first | (go_at_call 64; exact Calls.regrown_of (iname_is _ _ hps)) | (go_at_call 65; exact Calls.regrown_of (upper_spec _ _ hps)) | (go_at_call 66; exact Calls.regrown_of (iplain_is _ _ hpv)))))); refine wpQuiet_nil ?_; intro wq hw'; obtain ⟨⟨dq, osq⟩, hw''⟩ := hw'; have hbq := below_quiet hw''; clear hw''
              have HB2 := hI hbq
              clear hbq
              go_wp2_with fail
              go_meet
              exact ⟨_, rfl, HB2⟩
      case rest =>
       clear HX x1 p0 p2
       obtain ⟨b6, rfl, HB6⟩ := hcut
       have HB := hI (HB.out.trans (HB6.out.mono HB.out.size))
       have HBW := hI (HBW.out.trans (HB6.out.mono HBW.out.size))
       have HRQ := hI (Kd.C_below HRQ.out HB6.out)
       have HP := hI (below_blk HB6.out HP.out)
       clear HB6
       cases b6 with
       | true =>
        go_wp2
        go_ret
        exact ⟨_, rfl, HB.out⟩
       | false =>
        have p1 : wc.cell? ⟨L, 1, none⟩ = some (.slice Q p.f1.length cq) := (cell_blk HP.out 1).trans rfl
        go_wp2_with fail
        clear p1
        go_loopw [79] (fun i wr => ∃ j : Nat, j ≤ p.f1.length ∧ i = .int .i64 j ∧ Hid (Below wc.heap.size wc wr)) (fun i _ => p.f1.length - (RowKit.intOf i).toNat)
        case atStart => exact ⟨0, Nat.zero_le _, rfl, hI (Below.refl _ _)⟩
        case round =>
         obtain ⟨j, hj, rfl, HBN⟩ := hrel
         obtain ⟨wq, rfl⟩ : ∃ wq : World, wq = wr := ⟨_, rfl⟩
         by_cases hjt : j < p.f1.length
         ·obtain ⟨q, hqe⟩ : ∃ q, p.f1[j]? = some q := ⟨_, List.getElem?_eq_getElem hjt⟩
          have hqm := List.mem_of_getElem? hqe
          obtain ⟨ad2, V, cv, rfl, hlv, hrv, g0, g1⟩ := at151 (Kd.C_below HRQ.out HBN.out) j q hqe
          have hqo : okQ q := HPO.out.2.2.2 q hqm
          have hqs : q.f0.size ≤ 140737488351232 := by have := hqo.1; omega
          have hlv2 := hrv.2.1
          have HQO := hI hqo
          clear hqo hqm hqe
          go_upto_region 11 with (fail)
          have hb1 := below_alloc (Below.refl wq.heap.size wq) (.cells #[.string q.f0, .slice V q.f1.length cv] 151)
          have hq1 := new_blk wq (.cells #[.string q.f0, .slice V q.f1.length cv] 151)
          have hp1 := old_blk (below_blk HBN.out HP.out) (.cells #[.string q.f0, .slice V q.f1.length cv] 151)
          generalize hwx : wq.alloc _ = wz at hb1 hq1 hp1 ⊢
          obtain ⟨M, hM⟩ : ∃ M, M = wq.heap.size := ⟨_, rfl⟩
          rw [← hM] at hq1 ⊢
          have HBN := hI (HBN.out.trans (hb1.mono HBN.out.size))
          have HRQ2 := hI (Kd.C_below HRQ.out HBN.out)
          have hrv := Kd.C_below hrv hb1
          have HQ := hI hq1
          have HP2 := hI hp1
          clear hb1 hq1 hp1 hwx g0 g1 hM
          have p1 : ∀ d os, (grow (redrawn wz d) os).cell? ⟨L, 1, none⟩ = some (.slice (some ad2) p.f1.length cq) := fun d os => pw_cell_below (below_regrown _ _ _) ((cell_blk HP2.out 1).trans rfl)
          have q0 : ∀ d os, (grow (redrawn wz d) os).cell? ⟨M, 0, none⟩ = some (.string q.f0) := fun d os => pw_cell_below (below_regrown _ _ _) ((cell_blk HQ.out 0).trans rfl)
          have q1 : ∀ d os, (grow (redrawn wz d) os).cell? ⟨M, 1, none⟩ = some (.slice V q.f1.length cv) := fun d os => pw_cell_below (below_regrown _ _ _) ((cell_blk HQ.out 1).trans rfl)
          obtain ⟨w0, hw0⟩ : ∃ w0, w0 = wc := ⟨_, rfl⟩
          rw [← hw0] at HB HBW HRQ HP HBN
          have HWE := hI hw0
          clear hw0
          go_cut [117] (fun s wy => ∃ b : Bool, s = .bool b ∧ Hid (Below wz.heap.size wz wy))
          case first =>
           as_aux_lemma =>
            cases hn : nameB q.f0 with
            | false =>
             refine wp_region_quiet_below (by kernel_rfl) (by kernel_rfl) ?_; (repeat (first | go_big_quiet_step ((first | (go_at_call 64; exact Calls.regrown_of (iname_is _ _ hqs)) | (go_at_call 65; exact Calls.regrown_of (upper_spec _ _ hqs)))) | quiet_step ((first | (go_at_call 64; exact Calls.regrown_of (iname_is _ _ hqs)) | (go_at_call 65; exact Calls.regrown_of (upper_spec _ _ hqs)))))); refine wpQuiet_nil ?_; intro wq hw'; obtain ⟨⟨dq, osq⟩, hw''⟩ := hw'; have hbq := below_quiet hw''; clear hw''
             have HB2 := hI hbq
             clear hbq
             go_wp2_with fail
             go_meet
             exact ⟨_, rfl, HB2⟩
            | true =>
             cases he : (q.f0.toList == (upper q.f0).toList) with
             | false =>
              refine wp_region_quiet_below (by kernel_rfl) (by kernel_rfl) ?_; (repeat (first | go_big_quiet_step ((first | (go_at_call 64; exact Calls.regrown_of (iname_is _ _ hqs)) | (go_at_call 65; exact Calls.regrown_of (upper_spec _ _ hqs)))) | quiet_step ((first | (go_at_call 64; exact Calls.regrown_of (iname_is _ _ hqs)) | (go_at_call 65; exact Calls.regrown_of (upper_spec _ _ hqs)))))); refine wpQuiet_nil ?_; intro wq hw'; obtain ⟨⟨dq, osq⟩, hw''⟩ := hw'; have hbq := below_quiet hw''; clear hw''
              have HB2 := hI hbq
              clear hbq
              go_wp2_with fail
              go_meet
              exact ⟨_, rfl, HB2⟩
             | true =>
              cases hl0 : ((q.f1.length : Int) == 0) with
              | true =>
               refine wp_region_quiet_below (by kernel_rfl) (by kernel_rfl) ?_; (repeat (first | go_big_quiet_step ((first | (go_at_call 64; exact Calls.regrown_of (iname_is _ _ hqs)) | (go_at_call 65; exact Calls.regrown_of (upper_spec _ _ hqs)))) | quiet_step ((first | (go_at_call 64; exact Calls.regrown_of (iname_is _ _ hqs)) | (go_at_call 65; exact Calls.regrown_of (upper_spec _ _ hqs)))))); refine wpQuiet_nil ?_; intro wq hw'; obtain ⟨⟨dq, osq⟩, hw''⟩ := hw'; have hbq := below_quiet hw''; clear hw''
               have HB2 := hI hbq
               clear hbq
               go_wp2_with fail
               go_meet
               exact ⟨_, rfl, HB2⟩
              | false =>
               cases j with
               | zero =>
                refine wp_region_quiet_below (by kernel_rfl) (by kernel_rfl) ?_; (repeat (first | go_big_quiet_step ((first | (go_at_call 64; exact Calls.regrown_of (iname_is _ _ hqs)) | (go_at_call 65; exact Calls.regrown_of (upper_spec _ _ hqs)))) | quiet_step ((first | (go_at_call 64; exact Calls.regrown_of (iname_is _ _ hqs)) | (go_at_call 65; exact Calls.regrown_of (upper_spec _ _ hqs)))))); refine wpQuiet_nil ?_; intro wq hw'; obtain ⟨⟨dq, osq⟩, hw''⟩ := hw'; have hbq := below_quiet hw''; clear hw''
                have HB2 := hI hbq
                clear hbq
                go_wp2_with fail
                go_meet
                exact ⟨_, rfl, HB2⟩
               | succ j =>
                obtain ⟨q1, hq1⟩ : ∃ q1, p.f1[j]? = some q1 := ⟨_, List.getElem?_eq_getElem (by omega)⟩
                obtain ⟨ad1, V1, cv1, e1, -, -, g3, -⟩ := at151 HRQ2.out j q1 hq1
                obtain rfl : ad2 = ad1 := Option.some.inj e1
                have hpos : decide ((0 : Int) < ((j + 1 : Nat) : Int)) = true := decide_eq_true (by omega)
                have hwr : wrap64 (((j + 1 : Nat) : Int) - 1) = (j : Int) := by unfold wrap64; omega
                have hkl : j < p.f1.length := by omega
                have g3 : ∀ d os, (grow (redrawn wz d) os).cell? (ad2.add (j * 2)) = some (.string q1.f0) := fun d os => pw_cell_below (below_regrown _ _ _) g3
                clear hq1 e1
                refine wp_region_quiet_below (by kernel_rfl) (by kernel_rfl) ?_; (repeat (first | go_big_quiet_step ((first | (go_at_call 64; exact Calls.regrown_of (iname_is _ _ hqs)) | (go_at_call 65; exact Calls.regrown_of (upper_spec _ _ hqs)))) | quiet_step ((first | (go_at_call 64; exact Calls.regrown_of (iname_is _ _ hqs)) | (go_at_call 65; exact Calls.regrown_of (upper_spec _ _ hqs)))))); refine wpQuiet_nil ?_; intro wq hw'; obtain ⟨⟨dq, osq⟩, hw''⟩ := hw'; have hbq := below_quiet hw''; clear hw''
                have HB2 := hI hbq
                clear hbq
                go_wp2_with fail
                go_meet
                exact ⟨_, rfl, HB2⟩
          case rest =>
           clear p1 q0 q1
           obtain ⟨b11, rfl, HB11⟩ := hcut
           have HBN := hI (HBN.out.trans (HB11.out.mono HBN.out.size))
           have hrv := Kd.C_below hrv HB11.out
           have HQ := hI (below_blk HB11.out HQ.out)
           have HB := hI (HB.out.trans (HBN.out.mono HB.out.size))
           clear HB11
           cases b11 with
           | true =>
            go_wp2
            go_ret
            exact ⟨_, rfl, HB.out⟩
           | false =>
            have HRV := hI hrv
            clear hrv
            have q1 : wc.cell? ⟨M, 1, none⟩ = some (.slice V q.f1.length cv) := (cell_blk HQ.out 1).trans rfl
            go_wp2_with fail
            clear q1
            go_loopw [121] (fun i wr => ∃ l : Nat, l ≤ q.f1.length ∧ i = .int .i64 l ∧ Hid (Below wc.heap.size wc wr)) (fun i _ => q.f1.length - (RowKit.intOf i).toNat)
            case atStart => exact ⟨0, Nat.zero_le _, rfl, hI (Below.refl _ _)⟩
            case round =>
             obtain ⟨l, hl, rfl, HBV⟩ := hrel
             obtain ⟨wv, rfl⟩ : ∃ wv : World, wv = wr := ⟨_, rfl⟩
             by_cases hlv : l < q.f1.length
             ·obtain ⟨t, hte⟩ : ∃ t, q.f1[l]? = some t := ⟨_, List.getElem?_eq_getElem hlv⟩
              have htm := List.mem_of_getElem? hte
              obtain ⟨ad3, rfl, g3⟩ := atStr (Kd.C_below HRV.out HBV.out) l t hte
              have hts : t.size ≤ 140737488351232 := by have := HQO.out.2.2 t htm; omega
              clear htm hte
              go_wp2_with fail
              refine (iplain_is t _ hts).mono ?_
              rintro _ wp ⟨rfl, hb⟩
              have HBV := hI (HBV.out.trans (hb.mono HBV.out.size))
              clear hb g3
              cases hpl : plainB t with
              | false =>
               clear hpl
               go_wp2
               go_ret
               exact ⟨_, rfl, HB.out.trans (HBV.out.mono HB.out.size)⟩
              | true =>
               clear hpl
               go_wp2_with fail
               go_loopw [9] (fun i wr => ∃ m : Nat, m ≤ t.size ∧ i = .int .i64 m ∧ Hid (Below wc.heap.size wc wr)) (fun i _ => t.size - (RowKit.intOf i).toNat)
               case atStart => exact ⟨0, Nat.zero_le _, rfl, HBV⟩
               case round =>
                clear HBV
                obtain ⟨m, hm, rfl, HBV⟩ := hrel
                obtain ⟨wm, rfl⟩ : ∃ wm : World, wm = wr := ⟨_, rfl⟩
                by_cases hmt : m < t.size
                ·have hb := (t[m]).toNat_lt
                 cases hc : (((t[m]).toNat : Int) == 34) with
                 | true =>
                  go_wp2
                  go_ret
                  exact ⟨_, rfl, HB.out.trans (HBV.out.mono HB.out.size)⟩
                 | false =>
                  go_wp2
                  exact ⟨⟨m + 1, by omega, by go_num, HBV⟩, by simp [RowKit.intOf]; omega⟩
                ·obtain rfl : m = t.size := by omega
                 go_wp2
                 exact ⟨⟨l + 1, by omega, by go_num, HBV⟩, by simp [RowKit.intOf]; omega⟩
             ·obtain rfl : l = q.f1.length := by omega
              have HBN := hI (HBN.out.trans (HBV.out.mono HBN.out.size))
              go_wp2
              exact ⟨⟨j + 1, by omega, by go_num, by rw [← HWE.out]; exact HBN⟩, by simp [RowKit.intOf]; omega⟩
         ·obtain rfl : j = p.f1.length := by omega
          have HX := hI (HBW.out.trans (HBN.out.mono HBW.out.size))
          go_wp2
          exact ⟨⟨k + 1, by omega, by go_num, HX⟩, by simp [RowKit.intOf]; omega⟩
     ·obtain rfl : k = x.f1.length := by omega
      have x2 : wo.cell? ⟨w.heap.size, 2, none⟩ = some (.slice B x.f2.length c2) := (cell_blk HX.out 2).trans rfl
      clear HX
      go_wp2_with fail
      clear x2
      go_loopw [144] (fun i wr => ∃ k : Nat, k ≤ x.f2.length ∧ i = .int .i64 k ∧ Hid (Below w.heap.size w wr)) (fun i _ => x.f2.length - (RowKit.intOf i).toNat)
      case atStart => exact ⟨0, Nat.zero_le _, rfl, HB⟩
      case round =>
       clear HB
       obtain ⟨k, hk, rfl, HB⟩ := hrel
       obtain ⟨wo, rfl⟩ : ∃ wo : World, wo = wr := ⟨_, rfl⟩
       by_cases hlt : k < x.f2.length
       ·obtain ⟨g, hge⟩ : ∃ g, x.f2[k]? = some g := ⟨_, List.getElem?_eq_getElem hlt⟩
        have hgm := List.mem_of_getElem? hge
        obtain ⟨ad, V, cv, V2, cv2, rfl, hlv, hrv, hlv2, hrv2, g0, g1, g2⟩ := at36 (Kd.C_below hkk HB.out) k g hge
        clear hge
        go_wp2_with fail
        have hb1 := below_alloc (Below.refl wo.heap.size wo) (.cells #[.string g.f0, .slice V g.f1.length cv, .slice V2 g.f2.length cv2] 36)
        refine (ih g (by have := kid_lt x g hgm; have := hN.out; omega) (hR.out.kid hgm) (hO.out.kid hgm) V V2 cv cv2 _ (Kd.C_below hrv hb1) (Kd.C_below hrv2 hb1)).mono ?_
        rintro _ w5 ⟨b, rfl, hb⟩
        have HB := hI (HB.out.trans ((hb1.trans (hb.mono hb1.size)).mono HB.out.size))
        clear hb hb1 g0 g1 g2
        cases b with
        | false =>
         go_wp2
         go_ret
         exact ⟨_, rfl, HB.out⟩
        | true =>
         go_wp2
         exact ⟨⟨k + 1, by omega, by go_num, HB⟩, by simp [RowKit.intOf]; omega⟩
       ·obtain rfl : k = x.f2.length := by omega
        go_wp2
        go_ret
        exact ⟨_, rfl, HB.out⟩
end Go.Proofs.YtcllaplddebilaaGreatDoor

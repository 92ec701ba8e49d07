/- laws.FnKMatch: a part of the proof: KGreatW, Calm, Iof, SpD, SeenA. -/
import Derived.Test.YtcllaplddebilaaGreatDoorK05
import Derived.Test.YtcllaplddebilaaGreatDoorK17
set_option maxRecDepth 1000000
set_option maxHeartbeats 64000000
set_option linter.unusedVariables false
set_option linter.unusedSimpArgs false
section
namespace Go.Proofs.YtcllaplddebilaaGreatDoor
open Go.RowKit Go.Sort
attribute [local go_sem] cell?_grow frozen?_grow cell?_redrawn frozen?_redrawn size_redrawn size_grow ba_get ba_extract
attribute [local simp] size_redrawn
open Go.Lib Go.Proofs.YtcllaplddebilaaGreatDoorW.PrintWords Go.Proofs.YtcllaplddebilaaGreatDoorW.PrintLast Go.Proofs.YtcllaplddebilaaGreatDoorW.PrintMore PFnKMatch
theorem tl_eq {a b : ByteArray} (h : (a.toList == b.toList) = true) : a = b := by
 by_cases e : a = b
 ·exact e
 ·rw [tl_ne e] at h; cases h
def KGPost (w : World) (x : KCo) (e : Ending) (w' : World) : Prop := ∃ b : Bool, e = .returned (.bool b) ∧ Below w.heap.size w w' ∧ (b = true → KGr x)
theorem kGreat (N : Nat) : ∀ (x : KCo) (_ : SizeOf.sizeOf x ≤ N) (_ : KOk x) (A B : Option Addr) (c c2 : Nat) (w : World) (_ : kPr.C w A x.props.length x.props) (_ : kCo.C w B x.comps.length x.comps),
  Calls Tryz.prog 36 #[.agg #[.string x.name, .bool x.absent, .bool x.has, .bool x.hasEnd, .int .i64 x.st, .int .i64 x.en, .slice A x.props.length c, .slice B x.comps.length c2]] w (KGPost w x) := by
 induction N with
 | zero => intro x h; cases x; simp at h
 | succ N ih =>
  intro x hN0 hO0 A B c c2 w hp hkk
  have hr0 : x.name.size ≤ 140737488351232 := by cases hO0 with | mk _ a b c d e f g => omega
  have hl1 := hp.2.1
  have hl2 := hkk.2.1
  have hN := hI hN0
  have hO := hI hO0
  clear hN0 hO0
  have HB1 := hI ((Below.refl w.heap.size w).alloc (Nat.le_refl _) (.cells #[.string x.name, .bool x.absent, .bool x.has, .bool x.hasEnd, .int .i64 x.st, .int .i64 x.en, .slice A x.props.length c, .slice B x.comps.length c2] 42))
  cases hn : nameB x.name with
  | false =>
   go_enter Tryz.func36, Tryz.ntmps36
   go_wp2_with fail
   refine wp_region_quiet_below (by kernel_rfl) (by kernel_rfl) ?_; (repeat (first | go_big_quiet_step ((first | (go_at_call 64; exact Calls.regrown_of (iname_is _ _ hr0)) | (go_at_call 65; exact Calls.regrown_of (upper_spec _ _ hr0)))) | quiet_step ((first | (go_at_call 64; exact Calls.regrown_of (iname_is _ _ hr0)) | (go_at_call 65; exact Calls.regrown_of (upper_spec _ _ hr0)))))); refine wpQuiet_nil ?_; intro wq hw'; obtain ⟨⟨dq, osq⟩, hw''⟩ := hw'; have hbq := below_quiet hw''; clear hw''
   have HB := hI (HB1.out.trans (hbq.mono HB1.out.size))
   go_wp2
   go_ret
   exact ⟨false, rfl, HB.out, fun h => nomatch h⟩
  | true =>
   cases he : (x.name.toList == (upper x.name).toList) with
   | false =>
    go_enter Tryz.func36, Tryz.ntmps36
    go_wp2_with fail
    refine wp_region_quiet_below (by kernel_rfl) (by kernel_rfl) ?_; (repeat (first | go_big_quiet_step ((first | (go_at_call 64; exact Calls.regrown_of (iname_is _ _ hr0)) | (go_at_call 65; exact Calls.regrown_of (upper_spec _ _ hr0)))) | quiet_step ((first | (go_at_call 64; exact Calls.regrown_of (iname_is _ _ hr0)) | (go_at_call 65; exact Calls.regrown_of (upper_spec _ _ hr0)))))); refine wpQuiet_nil ?_; intro wq hw'; obtain ⟨⟨dq, osq⟩, hw''⟩ := hw'; have hbq := below_quiet hw''; clear hw''
    have HB := hI (HB1.out.trans (hbq.mono HB1.out.size))
    go_wp2
    go_ret
    exact ⟨false, rfl, HB.out, fun h => nomatch h⟩
   | true =>
    go_enter Tryz.func36, Tryz.ntmps36
    go_wp2_with fail
    refine wp_region_quiet_below (by kernel_rfl) (by kernel_rfl) ?_; (repeat (first | go_big_quiet_step ((first | (go_at_call 64; exact Calls.regrown_of (iname_is _ _ hr0)) | (go_at_call 65; exact Calls.regrown_of (upper_spec _ _ hr0)))) | quiet_step ((first | (go_at_call 64; exact Calls.regrown_of (iname_is _ _ hr0)) | (go_at_call 65; exact Calls.regrown_of (upper_spec _ _ hr0)))))); refine wpQuiet_nil ?_; intro wq hw'; obtain ⟨⟨dq, osq⟩, hw''⟩ := hw'; have hbq := below_quiet hw''; clear hw''
    have HB := hI (HB1.out.trans (hbq.mono HB1.out.size))
    have HX := hI (below_blk hbq (new_blk w _) : wq.heap[w.heap.size]? = some (.cells #[.string x.name, .bool x.absent, .bool x.has, .bool x.hasEnd, .int .i64 x.st, .int .i64 x.en, .slice A x.props.length c, .slice B x.comps.length c2] 42))
    have c6 : wq.cell? ⟨w.heap.size, 6, none⟩ = some (.slice A x.props.length c) := (cell_blk HX.out 6).trans rfl
    clear hbq hn he
    go_wp2_with fail
    go_loopw [24] (fun i wr => ∃ k : Nat, k ≤ x.props.length ∧ i = .int .i64 k ∧ Hid (Below w.heap.size w wr) ∧ Hid (wr.heap[w.heap.size]? = some (.cells #[.string x.name, .bool x.absent, .bool x.has, .bool x.hasEnd, .int .i64 x.st, .int .i64 x.en, .slice A x.props.length c, .slice B x.comps.length c2] 42)) ∧ Hid (∀ p ∈ x.props.take k, KpGr p)) (fun i _ => x.props.length - (RowKit.intOf i).toNat)
    case atStart => exact ⟨0, Nat.zero_le _, rfl, HB, HX, hI (fun p hp => by simp at hp)⟩
    case round =>
     clear HB HX c6
     obtain ⟨k, hk, rfl, HB, HX, HA⟩ := hrel
     obtain ⟨wo, rfl⟩ : ∃ wo : World, wo = wr := ⟨_, rfl⟩
     by_cases hlt : k < x.props.length
     ·obtain ⟨p, hpe⟩ : ∃ p, x.props[k]? = some p := ⟨_, List.getElem?_eq_getElem hlt⟩
      have hpm := List.mem_of_getElem? hpe
      obtain ⟨ad, q, V, cv, rfl, _, hlv, hrv, g0, g1, g2, g3, g4, g5, g6, g7⟩ := at_kPr hp k p hpe
      have g0 := pw_cell_below HB.out g0
      have g1 := pw_cell_below HB.out g1
      have g2 := pw_cell_below HB.out g2
      have g3 := pw_cell_below HB.out g3
      have g4 := pw_cell_below HB.out g4
      have g5 := pw_cell_below HB.out g5
      have g6 := pw_cell_below HB.out g6
      have g7 := pw_cell_below HB.out g7
      have hpo : KpOk p := by cases hO.out with | mk _ a b c d e f g' => exact f p hpm
      have hps : p.name.size ≤ 140737488351232 := by have := hpo.name; omega
      have hpe := hI hpe
      go_wp2_with fail
      have hb1 := below_alloc (Below.refl wo.heap.size wo) (.cells #[.string p.name, .bool p.absent, .bool p.has, .bool p.hasEnd, .int .i64 p.st, .int .i64 p.en, .pointer q, .slice V p.params.length cv] 147)
      have HB1 := hI (HB.out.trans (hb1.mono HB.out.size))
      clear g0 g1 g2 g3 g4 g5 g6 g7 hb1
      cases hn : nameB p.name with
      | false =>
       refine wp_region_quiet_below (by kernel_rfl) (by kernel_rfl) ?_; (repeat (first | go_big_quiet_step ((first | (go_at_call 64; exact Calls.regrown_of (iname_is _ _ hps)) | (go_at_call 65; exact Calls.regrown_of (upper_spec _ _ hps)))) | quiet_step ((first | (go_at_call 64; exact Calls.regrown_of (iname_is _ _ hps)) | (go_at_call 65; exact Calls.regrown_of (upper_spec _ _ hps)))))); refine wpQuiet_nil ?_; intro wq hw'; obtain ⟨⟨dq, osq⟩, hw''⟩ := hw'; have hbq := below_quiet hw''; clear hw''
       have HB := hI (HB1.out.trans (hbq.mono HB1.out.size))
       go_wp2
       go_ret
       exact ⟨false, rfl, HB.out, fun h => nomatch h⟩
      | true =>
       cases he : (p.name.toList == (upper p.name).toList) with
       | false =>
        refine wp_region_quiet_below (by kernel_rfl) (by kernel_rfl) ?_; (repeat (first | go_big_quiet_step ((first | (go_at_call 64; exact Calls.regrown_of (iname_is _ _ hps)) | (go_at_call 65; exact Calls.regrown_of (upper_spec _ _ hps)))) | quiet_step ((first | (go_at_call 64; exact Calls.regrown_of (iname_is _ _ hps)) | (go_at_call 65; exact Calls.regrown_of (upper_spec _ _ hps)))))); refine wpQuiet_nil ?_; intro wq hw'; obtain ⟨⟨dq, osq⟩, hw''⟩ := hw'; have hbq := below_quiet hw''; clear hw''
        have HB := hI (HB1.out.trans (hbq.mono HB1.out.size))
        go_wp2
        go_ret
        exact ⟨false, rfl, HB.out, fun h => nomatch h⟩
       | true =>
        refine wp_region_quiet_below (by kernel_rfl) (by kernel_rfl) ?_; (repeat (first | go_big_quiet_step ((first | (go_at_call 64; exact Calls.regrown_of (iname_is _ _ hps)) | (go_at_call 65; exact Calls.regrown_of (upper_spec _ _ hps)))) | quiet_step ((first | (go_at_call 64; exact Calls.regrown_of (iname_is _ _ hps)) | (go_at_call 65; exact Calls.regrown_of (upper_spec _ _ hps)))))); refine wpQuiet_nil ?_; intro wq hw'; obtain ⟨⟨dq, osq⟩, hw''⟩ := hw'; have hbq := below_quiet hw''; clear hw''
        have HB := hI (HB1.out.trans (hbq.mono HB1.out.size))
        have HE : Hid (upper p.name = p.name) := hI (tl_eq he).symm
        have HX := hI (below_blk hbq (old_blk HX.out (.cells #[.string p.name, .bool p.absent, .bool p.has, .bool p.hasEnd, .int .i64 p.st, .int .i64 p.en, .pointer q, .slice V p.params.length cv] 147)))
        have c7 : wq.cell? ⟨wo.heap.size, 7, none⟩ = some (.slice V p.params.length cv) := (cell_blk (below_blk hbq (new_blk wo _)) 7).trans rfl
        have hlp := hrv.2.1
        clear hbq hn he
        go_wp2_with fail
        go_loopw [43] (fun i wr => ∃ j : Nat, j ≤ p.params.length ∧ i = .int .i64 j ∧ Hid (Below w.heap.size w wr) ∧ Hid (wr.heap[w.heap.size]? = some (.cells #[.string x.name, .bool x.absent, .bool x.has, .bool x.hasEnd, .int .i64 x.st, .int .i64 x.en, .slice (some ad) x.props.length c, .slice B x.comps.length c2] 42)) ∧ Hid (∀ q ∈ p.params.take j, KaGr q)) (fun i _ => p.params.length - (RowKit.intOf i).toNat)
        case atStart => exact ⟨0, Nat.zero_le _, rfl, HB, HX, hI (fun q hq => by simp at hq)⟩
        case round =>
         clear HB c7 HX
         obtain ⟨j, hj, rfl, HB, HX, HA2⟩ := hrel
         obtain ⟨wi, rfl⟩ : ∃ wi : World, wi = wr := ⟨_, rfl⟩
         by_cases hjt : j < p.params.length
         ·obtain ⟨q, hqe⟩ : ∃ q, p.params[j]? = some q := ⟨_, List.getElem?_eq_getElem hjt⟩
          have hqm := List.mem_of_getElem? hqe
          obtain ⟨ad2, q2, rfl, _, g0, g1, g2⟩ := at_kPa (Kd.C_below hrv HB.out) j q hqe
          have hqs : q.name.size ≤ 140737488351232 := by have := (hpo.params q hqm).name; omega
          have hqe := hI hqe
          go_wp2_with fail
          have HB1 := hI (HB.out.trans ((below_alloc (Below.refl wi.heap.size wi) (.cells #[.string q.name, .bool q.absent, .pointer q2] 158)).mono HB.out.size))
          clear g0 g1 g2
          cases hn : nameB q.name with
          | false =>
           refine wp_region_quiet_below (by kernel_rfl) (by kernel_rfl) ?_; (repeat (first | go_big_quiet_step ((first | (go_at_call 64; exact Calls.regrown_of (iname_is _ _ hqs)) | (go_at_call 65; exact Calls.regrown_of (upper_spec _ _ hqs)))) | quiet_step ((first | (go_at_call 64; exact Calls.regrown_of (iname_is _ _ hqs)) | (go_at_call 65; exact Calls.regrown_of (upper_spec _ _ hqs)))))); refine wpQuiet_nil ?_; intro wq hw'; obtain ⟨⟨dq, osq⟩, hw''⟩ := hw'; have hbq := below_quiet hw''; clear hw''
           have HB := hI (HB1.out.trans (hbq.mono HB1.out.size))
           go_wp2
           go_ret
           exact ⟨false, rfl, HB.out, fun h => nomatch h⟩
          | true =>
           cases he : (q.name.toList == (upper q.name).toList) with
           | false =>
            refine wp_region_quiet_below (by kernel_rfl) (by kernel_rfl) ?_; (repeat (first | go_big_quiet_step ((first | (go_at_call 64; exact Calls.regrown_of (iname_is _ _ hqs)) | (go_at_call 65; exact Calls.regrown_of (upper_spec _ _ hqs)))) | quiet_step ((first | (go_at_call 64; exact Calls.regrown_of (iname_is _ _ hqs)) | (go_at_call 65; exact Calls.regrown_of (upper_spec _ _ hqs)))))); refine wpQuiet_nil ?_; intro wq hw'; obtain ⟨⟨dq, osq⟩, hw''⟩ := hw'; have hbq := below_quiet hw''; clear hw''
            have HB := hI (HB1.out.trans (hbq.mono HB1.out.size))
            go_wp2
            go_ret
            exact ⟨false, rfl, HB.out, fun h => nomatch h⟩
           | true =>
            refine wp_region_quiet_below (by kernel_rfl) (by kernel_rfl) ?_; (repeat (first | go_big_quiet_step ((first | (go_at_call 64; exact Calls.regrown_of (iname_is _ _ hqs)) | (go_at_call 65; exact Calls.regrown_of (upper_spec _ _ hqs)))) | quiet_step ((first | (go_at_call 64; exact Calls.regrown_of (iname_is _ _ hqs)) | (go_at_call 65; exact Calls.regrown_of (upper_spec _ _ hqs)))))); refine wpQuiet_nil ?_; intro wq hw'; obtain ⟨⟨dq, osq⟩, hw''⟩ := hw'; have hbq := below_quiet hw''; clear hw''
            have HB := hI (HB1.out.trans (hbq.mono HB1.out.size))
            have HA4 : Hid (∀ q ∈ p.params.take (j + 1), KaGr q) := hI (by
             rw [take_snoc' _ _ _ hqe.out]
             intro q' hq'
             rcases List.mem_append.1 hq' with h | h
             ·exact HA2.out q' h
             ·rw [List.mem_singleton.1 h]; exact (tl_eq he).symm)
            have HX := hI (below_blk hbq (old_blk HX.out (.cells #[.string q.name, .bool q.absent, .pointer q2] 158)))
            clear hbq hn he
            go_wp2
            exact ⟨⟨j + 1, by omega, by go_num, HB, HX, HA4⟩, by simp [RowKit.intOf]; omega⟩
         ·obtain rfl : j = p.params.length := by omega
          have h3 := HA2.out
          rw [List.take_length] at h3
          have HA4 : Hid (∀ p ∈ x.props.take (k + 1), KpGr p) := hI (by
           rw [take_snoc' _ _ _ hpe.out]
           intro p' hp'
           rcases List.mem_append.1 hp' with h | h
           ·exact HA.out p' h
           ·rw [List.mem_singleton.1 h]; exact ⟨HE.out, h3⟩)
          clear h3 HA2
          go_wp2
          exact ⟨⟨k + 1, by omega, by go_num, HB, HX, HA4⟩, by simp [RowKit.intOf]; omega⟩
     ·obtain rfl : k = x.props.length := by omega
      have h3 := HA.out
      rw [List.take_length] at h3
      have HP := hI h3
      have c7 : wo.cell? ⟨w.heap.size, 7, none⟩ = some (.slice B x.comps.length c2) := (cell_blk HX.out 7).trans rfl
      clear h3 HA HX
      go_wp2_with fail
      clear c7
      go_loopw [64] (fun i wr => ∃ k : Nat, k ≤ x.comps.length ∧ i = .int .i64 k ∧ Hid (Below w.heap.size w wr) ∧ Hid (∀ g ∈ x.comps.take k, KGr g)) (fun i _ => x.comps.length - (RowKit.intOf i).toNat)
      case atStart => exact ⟨0, Nat.zero_le _, rfl, HB, hI (fun g hg => by simp at hg)⟩
      case round =>
       clear HB
       obtain ⟨k, hk, rfl, HB, HA3⟩ := hrel
       obtain ⟨wo, rfl⟩ : ∃ wo : World, wo = wr := ⟨_, rfl⟩
       by_cases hlt : k < x.comps.length
       ·obtain ⟨g, hge⟩ : ∃ g, x.comps[k]? = some g := ⟨_, List.getElem?_eq_getElem hlt⟩
        have hgm := List.mem_of_getElem? hge
        obtain ⟨ad, V, cv, V2, cv2, rfl, hlv, hrv, hlv2, hrv2, g0, g1, g2, g3, g4, g5, g6, g7⟩ := at_kCo (Kd.C_below hkk HB.out) k g hge
        have hgo : KOk g := by cases hO.out with | mk _ a b c d e f g' => exact g' g hgm
        have hge := hI hge
        go_wp2_with fail
        have hb1 := below_alloc (Below.refl wo.heap.size wo) (.cells #[.string g.name, .bool g.absent, .bool g.has, .bool g.hasEnd, .int .i64 g.st, .int .i64 g.en, .slice V g.props.length cv, .slice V2 g.comps.length cv2] 42)
        refine (ih g (by have := comp_lt x g hgm; have := hN.out; omega) hgo V V2 cv cv2 _ (Kd.C_below hrv hb1) (Kd.C_below hrv2 hb1)).mono ?_
        rintro _ w5 ⟨b, rfl, hb, hgr⟩
        have HB := hI (HB.out.trans ((hb1.trans (hb.mono hb1.size)).mono HB.out.size))
        clear hb hb1 g0 g1 g2 g3 g4 g5 g6 g7
        cases b with
        | false =>
         clear hgr
         go_wp2
         go_ret
         exact ⟨false, rfl, HB.out, fun h => nomatch h⟩
        | true =>
         have HA4 : Hid (∀ g ∈ x.comps.take (k + 1), KGr g) := hI (by
          rw [take_snoc' _ _ _ hge.out]
          intro g' hg'
          rcases List.mem_append.1 hg' with h | h
          ·exact HA3.out g' h
          ·rw [List.mem_singleton.1 h]; exact hgr rfl)
         clear hgr
         go_wp2
         exact ⟨⟨k + 1, by omega, by go_num, HB, HA4⟩, by simp [RowKit.intOf]; omega⟩
       ·obtain rfl : k = x.comps.length := by omega
        have h3 := HA3.out
        rw [List.take_length] at h3
        have hfin := hI (KGr.mk x HP.out h3)
        clear h3 HA3 HP
        go_wp2
        go_ret
        exact ⟨true, rfl, HB.out, fun _ => hfin.out⟩
def CalmPost (w : World) (P : Prop) (e : Ending) (w' : World) : Prop := ∃ b : Bool, e = .returned (.bool b) ∧ Below w.heap.size w w' ∧ (b = true → P)
theorem icalm (x : S36) (hR : AllC reachC x) (A B : Option Addr) (c c2 : Nat) (w : World) (hp : k75.C w A x.f1.length x.f1) (hk : k36.C w B x.f2.length x.f2) :
  Calls Tryz.prog 13 #[.agg #[.string x.f0, .slice A x.f1.length c, .slice B x.f2.length c2]] w (CalmPost w (AllC okC x)) := by
 go_enter Tryz.func13, Tryz.ntmps13
 go_upto_region 2 with (fail)
 have hb1 := below_alloc (Below.refl w.heap.size w) (.cells #[.string x.f0, .slice A x.f1.length c, .slice B x.f2.length c2] 36)
 have hb2 := hb1.alloc hb1.size (.cells #[.int .i64 100] 3)
 have hN := new_blk (w.alloc (.cells #[.string x.f0, .slice A x.f1.length c, .slice B x.f2.length c2] 36)) (.cells #[.int .i64 100] 3)
 have hX := old_blk (new_blk w (.cells #[.string x.f0, .slice A x.f1.length c, .slice B x.f2.length c2] 36)) (.cells #[.int .i64 100] 3)
 rw [World.size_alloc] at hN
 generalize hw2 : World.alloc (World.alloc _ _) _ = w2 at hb2 hN hX ⊢
 clear hw2 hb1
 have x0 : w2.cell? ⟨w.heap.size, 0, none⟩ = some (.string x.f0) := (cell_blk hX 0).trans rfl
 have x1 : w2.cell? ⟨w.heap.size, 1, none⟩ = some (.slice A x.f1.length c) := (cell_blk hX 1).trans rfl
 have x2 : w2.cell? ⟨w.heap.size, 2, none⟩ = some (.slice B x.f2.length c2) := (cell_blk hX 2).trans rfl
 go_wp2_with fail
 with_reducible refine (isize _ x (Nat.le_refl _) hR A B c c2 5 (by decide) (by decide) (w.heap.size + 1) 100 (by decide) (by decide) w w2 hb2 (by omega) hN hp hk).mono ?_
 rintro _ w3 ⟨b, m, rfl, _, hO, hP⟩
 have hb3 : Below w.heap.size w w3 := hb2.trans (hO.below hb2.size (by intro y hy; simp at hy; omega))
 have hX3 := hO.blk hX (by simp)
 have HB := hI hb3
 have HX := hI hX3
 clear hb2 hN hX hO hb3 hX3 x0 x1 x2
 cases b with
 | false =>
  clear hP
  go_wp2
  go_ret
  exact ⟨false, rfl, HB.out, fun h => nomatch h⟩
 | true =>
  have hok : AllC okC x := (hP rfl).2.2
  have x0 : w3.cell? ⟨w.heap.size, 0, none⟩ = some (.string x.f0) := (cell_blk HX.out 0).trans rfl
  have x1 : w3.cell? ⟨w.heap.size, 1, none⟩ = some (.slice A x.f1.length c) := (cell_blk HX.out 1).trans rfl
  have x2 : w3.cell? ⟨w.heap.size, 2, none⟩ = some (.slice B x.f2.length c2) := (cell_blk HX.out 2).trans rfl
  clear hP
  go_wp2_with fail
  refine (ineat _ x (Nat.le_refl _) hR hok A B c c2 _ (Kd.C_below hp HB.out) (Kd.C_below hk HB.out)).mono ?_
  rintro _ w4 ⟨b, rfl, hb⟩
  have HB := hI (HB.out.trans (hb.mono HB.out.size))
  clear hb x0 x1 x2
  go_wp2
  go_ret
  exact ⟨b, rfl, HB.out, fun _ => hok⟩
theorem kcalm (x : KCo) (A B : Option Addr) (c c2 : Nat) (w : World) (hp : kPr.C w A x.props.length x.props) (hk : kCo.C w B x.comps.length x.comps) :
  Calls Tryz.prog 14 #[.agg #[.string x.name, .bool x.absent, .bool x.has, .bool x.hasEnd, .int .i64 x.st, .int .i64 x.en, .slice A x.props.length c, .slice B x.comps.length c2]] w (CalmPost w (KOk x ∧ KGr x)) := by
 go_enter Tryz.func14, Tryz.ntmps14
 go_upto_region 2 with (fail)
 have hb1 := below_alloc (Below.refl w.heap.size w) (.cells #[.string x.name, .bool x.absent, .bool x.has, .bool x.hasEnd, .int .i64 x.st, .int .i64 x.en, .slice A x.props.length c, .slice B x.comps.length c2] 42)
 have hb2 := hb1.alloc hb1.size (.cells #[.int .i64 40] 3)
 have hN := new_blk (w.alloc (.cells #[.string x.name, .bool x.absent, .bool x.has, .bool x.hasEnd, .int .i64 x.st, .int .i64 x.en, .slice A x.props.length c, .slice B x.comps.length c2] 42)) (.cells #[.int .i64 40] 3)
 have hX := old_blk (new_blk w (.cells #[.string x.name, .bool x.absent, .bool x.has, .bool x.hasEnd, .int .i64 x.st, .int .i64 x.en, .slice A x.props.length c, .slice B x.comps.length c2] 42)) (.cells #[.int .i64 40] 3)
 rw [World.size_alloc] at hN
 generalize hw2 : World.alloc (World.alloc _ _) _ = w2 at hb2 hN hX ⊢
 clear hw2 hb1
 have x0 : w2.cell? ⟨w.heap.size, 0, none⟩ = some (.string x.name) := (cell_blk hX 0).trans rfl
 have x1 : w2.cell? ⟨w.heap.size, 1, none⟩ = some (.bool x.absent) := (cell_blk hX 1).trans rfl
 have x2 : w2.cell? ⟨w.heap.size, 2, none⟩ = some (.bool x.has) := (cell_blk hX 2).trans rfl
 have x3 : w2.cell? ⟨w.heap.size, 3, none⟩ = some (.bool x.hasEnd) := (cell_blk hX 3).trans rfl
 have x4 : w2.cell? ⟨w.heap.size, 4, none⟩ = some (.int .i64 x.st) := (cell_blk hX 4).trans rfl
 have x5 : w2.cell? ⟨w.heap.size, 5, none⟩ = some (.int .i64 x.en) := (cell_blk hX 5).trans rfl
 have x6 : w2.cell? ⟨w.heap.size, 6, none⟩ = some (.slice A x.props.length c) := (cell_blk hX 6).trans rfl
 have x7 : w2.cell? ⟨w.heap.size, 7, none⟩ = some (.slice B x.comps.length c2) := (cell_blk hX 7).trans rfl
 go_wp2_with fail
 with_reducible refine (kSize _ x (Nat.le_refl _) A B c c2 4 (by decide) (by decide) (w.heap.size + 1) 40 (by decide) (by decide) w w2 hb2 (by omega) hN hp hk).mono ?_
 rintro _ w3 ⟨b, m, rfl, _, hO, hP⟩
 have hb3 : Below w.heap.size w w3 := hb2.trans (hO.below hb2.size (by intro y hy; simp at hy; omega))
 have hX3 := hO.blk hX (by simp)
 have HB := hI hb3
 have HX := hI hX3
 clear hb2 hN hX hO hb3 hX3 x0 x1 x2 x3 x4 x5 x6 x7
 cases b with
 | false =>
  clear hP
  go_wp2
  go_ret
  exact ⟨false, rfl, HB.out, fun h => nomatch h⟩
 | true =>
  have hok : KOk x := (hP rfl).2.2
  have x0 : w3.cell? ⟨w.heap.size, 0, none⟩ = some (.string x.name) := (cell_blk HX.out 0).trans rfl
  have x1 : w3.cell? ⟨w.heap.size, 1, none⟩ = some (.bool x.absent) := (cell_blk HX.out 1).trans rfl
  have x2 : w3.cell? ⟨w.heap.size, 2, none⟩ = some (.bool x.has) := (cell_blk HX.out 2).trans rfl
  have x3 : w3.cell? ⟨w.heap.size, 3, none⟩ = some (.bool x.hasEnd) := (cell_blk HX.out 3).trans rfl
  have x4 : w3.cell? ⟨w.heap.size, 4, none⟩ = some (.int .i64 x.st) := (cell_blk HX.out 4).trans rfl
  have x5 : w3.cell? ⟨w.heap.size, 5, none⟩ = some (.int .i64 x.en) := (cell_blk HX.out 5).trans rfl
  have x6 : w3.cell? ⟨w.heap.size, 6, none⟩ = some (.slice A x.props.length c) := (cell_blk HX.out 6).trans rfl
  have x7 : w3.cell? ⟨w.heap.size, 7, none⟩ = some (.slice B x.comps.length c2) := (cell_blk HX.out 7).trans rfl
  clear hP
  go_wp2_with fail
  refine (kGreat _ x (Nat.le_refl _) hok A B c c2 _ (Kd.C_below hp HB.out) (Kd.C_below hk HB.out)).mono ?_
  rintro _ w4 ⟨b, rfl, hb, hg⟩
  have HB := hI (HB.out.trans (hb.mono HB.out.size))
  have HGG := hI hg
  clear hg hb x0 x1 x2 x3 x4 x5 x6 x7
  go_wp2
  go_ret
  exact ⟨b, rfl, HB.out, fun h => ⟨hok, HGG.out h⟩⟩
abbrev PV := Option (S75 × Option Addr × Nat)
def pc : PV → List Value
 | none => [.string { data := #[] }, .slice none 0 0, .string { data := #[] }]
 | some (p, V, cv) => [.string p.f0, .slice V p.f1.length cv, .string p.f2]
def PvOk (w : World) : PV → Prop
 | none => True
 | some (p, V, cv) => p.f1.length ≤ cv ∧ k151.C w V p.f1.length p.f1
def pc0 (s : PV) : ByteArray := match s with | none => { data := #[] } | some (p, _, _) => p.f0
def pc1 (s : PV) : Value := match s with | none => .slice none 0 0 | some (p, V, cv) => .slice V p.f1.length cv
def pc2 (s : PV) : ByteArray := match s with | none => { data := #[] } | some (p, _, _) => p.f2
theorem pc_eq (s : PV) : pc s = [.string (pc0 s), pc1 s, .string (pc2 s)] := by
 cases s with
 | none => rfl
 | some q => obtain ⟨p, V, cv⟩ := q; rfl
theorem pc1_slice (s : PV) : ∃ V n cv, pc1 s = .slice V n cv := by
 cases s with
 | none => exact ⟨_, _, _, rfl⟩
 | some q => obtain ⟨p, V, cv⟩ := q; exact ⟨_, _, _, rfl⟩
def IofPost (w0 w : World) (ps : List S75) (nm : ByteArray) (e : Ending) (w' : World) : Prop := ∃ (s : PV) (n : Int), e = .returned (.tuple #[.agg (pc s).toArray, .int .i64 n]) ∧ Below w.heap.size w w' ∧ firstP ps nm = s.map (·.1) ∧ PvOk w0 s ∧ (n = 0 ↔ s = none) ∧ 0 ≤ n ∧ n ≤ 100
theorem firstP_snoc (l : List S75) (nm : ByteArray) (k : Nat) (p : S75) (h : l[k]? = some p) : firstP (l.take (k + 1)) nm = match firstP (l.take k) nm with | some q => some q | none => if p.f0 = nm then some p else none := by
 rw [take_snoc' _ _ _ h]
 unfold firstP
 rw [List.find?_append]
 cases (l.take k).find? (fun p => decide (p.f0 = nm)) with
 | some q => rfl
 | none =>
  by_cases h2 : p.f0 = nm <;> simp [h2]
theorem iof_ (x : S36) (A B : Option Addr) (c c2 : Nat) (nm : ByteArray) (w0 w : World) (hb0 : Below w0.heap.size w0 w) (hp : k75.C w0 A x.f1.length x.f1) (hl : x.f1.length ≤ 100) :
  Calls Tryz.prog 103 #[.agg #[.string x.f0, .slice A x.f1.length c, .slice B x.f2.length c2], .string nm] w (IofPost w0 w x.f1 nm) := by
 go_enter Tryz.func103, Tryz.ntmps103
 go_wp2_with fail
 have hR := old_blk (new_blk (w.alloc (.cells #[.string x.f0, .slice A x.f1.length c, .slice B x.f2.length c2] 36)) (.cells #[.string { data := #[] }, .slice none 0 0, .string { data := #[] }] 75)) (.cells #[.string { data := #[] }, .slice none 0 0, .string { data := #[] }] 75)
 have hU := new_blk ((w.alloc (.cells #[.string x.f0, .slice A x.f1.length c, .slice B x.f2.length c2] 36)).alloc (.cells #[.string { data := #[] }, .slice none 0 0, .string { data := #[] }] 75)) (.cells #[.string { data := #[] }, .slice none 0 0, .string { data := #[] }] 75)
 have hb : Below w.heap.size w (((w.alloc (.cells #[.string x.f0, .slice A x.f1.length c, .slice B x.f2.length c2] 36)).alloc (.cells #[.string { data := #[] }, .slice none 0 0, .string { data := #[] }] 75)).alloc (.cells #[.string { data := #[] }, .slice none 0 0, .string { data := #[] }] 75)) := (((Below.refl _ _).alloc (Nat.le_refl _) _).alloc (by simp) _).alloc (by simp; omega) _
 simp only [World.size_alloc] at hR hU
 generalize hw1 : World.alloc _ _ = w1 at hR hU hb ⊢
 clear hw1
 have HR := hI hR
 have HU : Hid (w1.heap[w.heap.size + 1 + 1]? = some (.cells #[.string (pc0 none), pc1 none, .string (pc2 none)] 75)) := hI hU
 have HB := hI hb
 clear hR hU hb
 go_loopw [7, 13] (fun nv i wr => ∃ (k : Nat) (n : Int) (s : PV), k ≤ x.f1.length ∧ i = .int .i64 k ∧ nv = .int .i64 n ∧ 0 ≤ n ∧ n ≤ k ∧ (n = 0 ↔ s = none) ∧ Hid (firstP (x.f1.take k) nm = s.map (·.1)) ∧ Hid (PvOk w0 s) ∧ Hid (Below w.heap.size w wr) ∧
   Hid (wr.heap[w.heap.size + 1]? = some (.cells #[.string { data := #[] }, .slice none 0 0, .string { data := #[] }] 75)) ∧ Hid (wr.heap[w.heap.size + 1 + 1]? = some (.cells #[.string (pc0 s), pc1 s, .string (pc2 s)] 75))) (fun _ i _ => x.f1.length - (RowKit.intOf i).toNat)
 case atStart => exact ⟨0, 0, none, Nat.zero_le _, rfl, rfl, Int.le_refl _, Int.le_refl _, ⟨fun _ => rfl, fun _ => rfl⟩, hI rfl, hI trivial, HB, HR, HU⟩
 case round =>
  clear HB HR HU
  obtain ⟨k, n, s, hk, rfl, rfl, hn0, hn1, hns, HF, HS, HB, HR, HU⟩ := hrel
  obtain ⟨wo, rfl⟩ : ∃ wo : World, wo = wr := ⟨_, rfl⟩
  have hW : Below w0.heap.size w0 wo := hb0.trans (HB.out.mono hb0.size)
  by_cases hlt : k < x.f1.length
  ·obtain ⟨p, hpe⟩ : ∃ p, x.f1[k]? = some p := ⟨_, List.getElem?_eq_getElem hlt⟩
   obtain ⟨ad, V, cv, rfl, hlv, hrv, g0, g1, g2⟩ := at75 hp k p hpe
   have hF1 := firstP_snoc x.f1 nm k p hpe
   rw [HF.out] at hF1
   have g0 := pw_cell_below hW g0
   have g1 := pw_cell_below hW g1
   have g2 := pw_cell_below hW g2
   have HV := hI (And.intro hlv hrv)
   clear hW hpe hlv hrv
   have hb1 := below_alloc (Below.refl wo.heap.size wo) (.cells #[.string p.f0, .slice V p.f1.length cv, .string p.f2] 75)
   have HR2 := hI (below_blk hb1 HR.out)
   have HU2 := hI (below_blk hb1 HU.out)
   have HB2 := hI (HB.out.trans (hb1.mono HB.out.size))
   clear hb1 HR HU HB
   by_cases hn : p.f0 = nm
   ·have hd : (p.f0.toList == nm.toList) = true := by rw [hn]; exact beq_self_eq_true _
    have HN := hI hn
    clear hn
    cases s with
    | none =>
     have hn2 : n = 0 := hns.2 rfl
     subst hn2
     have hF2 : Hid (firstP (x.f1.take (k + 1)) nm = (some (p, V, cv) : PV).map (·.1)) := hI (by rw [hF1]; show (if p.f0 = nm then some p else none) = some p; rw [if_pos HN.out])
     clear hF1 HF
     have c0 := (cell_blk HU2.out 0).trans rfl
     have c1 := (cell_blk HU2.out 1).trans rfl
     have c2' := (cell_blk HU2.out 2).trans rfl
     have f0 : ∀ o, (wo.alloc (.cells #[.string p.f0, .slice V p.f1.length cv, .string p.f2] 75)).frozen? ⟨w.heap.size + 1 + 1, o, none⟩ = false := fun o => frozen_blk HU2.out o (by omega)
     have HU3 := hI (set_blk (set_blk (set_blk HU2.out 0 (.string p.f0)) 1 (.slice V p.f1.length cv)) 2 (.string p.f2))
     have HB3 := hI (((HB2.out.setCell (p := ⟨w.heap.size + 1 + 1, 0, none⟩) (by show w.heap.size ≤ w.heap.size + 1 + 1; omega) (.string p.f0)).setCell (p := ⟨w.heap.size + 1 + 1, 1, none⟩) (by show w.heap.size ≤ w.heap.size + 1 + 1; omega) (.slice V p.f1.length cv)).setCell (p := ⟨w.heap.size + 1 + 1, 2, none⟩) (by show w.heap.size ≤ w.heap.size + 1 + 1; omega) (.string p.f2))
     have HR3 := hI ((Below.heap_setCell (((wo.alloc (.cells #[.string p.f0, .slice V p.f1.length cv, .string p.f2] 75)).setCell ⟨w.heap.size + 1 + 1, 0, none⟩ (.string p.f0)).setCell ⟨w.heap.size + 1 + 1, 1, none⟩ (.slice V p.f1.length cv)) ⟨w.heap.size + 1 + 1, 2, none⟩ (.string p.f2) (w.heap.size + 1) (by show w.heap.size + 1 ≠ w.heap.size + 1 + 1; omega)).trans ((Below.heap_setCell ((wo.alloc (.cells #[.string p.f0, .slice V p.f1.length cv, .string p.f2] 75)).setCell ⟨w.heap.size + 1 + 1, 0, none⟩ (.string p.f0)) ⟨w.heap.size + 1 + 1, 1, none⟩ (.slice V p.f1.length cv) (w.heap.size + 1) (by show w.heap.size + 1 ≠ w.heap.size + 1 + 1; omega)).trans ((Below.heap_setCell (wo.alloc (.cells #[.string p.f0, .slice V p.f1.length cv, .string p.f2] 75)) ⟨w.heap.size + 1 + 1, 0, none⟩ (.string p.f0) (w.heap.size + 1) (by show w.heap.size + 1 ≠ w.heap.size + 1 + 1; omega)).trans HR2.out)))
     have HS2 : Hid (PvOk w0 (some (p, V, cv))) := HV
     go_wp2
     exact ⟨⟨k + 1, 1, some (p, V, cv), by omega, by go_num, rfl, by omega, by omega, ⟨fun h => by omega, fun h => by cases h⟩, hF2, HS2, HB3, HR3, HU3⟩, by simp [RowKit.intOf]; omega⟩
    | some q =>
     have hn2 : ¬ n = 0 := fun h => by have := hns.1 h; cases this
     have hF2 : Hid (firstP (x.f1.take (k + 1)) nm = (some q : PV).map (·.1)) := hI (by rw [hF1]; rfl)
     clear hF1 HF
     go_wp2
     exact ⟨⟨k + 1, n + 1, some q, by omega, by go_num, rfl, by omega, by omega, ⟨fun h => by omega, fun h => by cases h⟩, hF2, HS, HB2, HR2, HU2⟩, by simp [RowKit.intOf]; omega⟩
   ·have hd : (p.f0.toList == nm.toList) = false := tl_ne hn
    have hF2 : Hid (firstP (x.f1.take (k + 1)) nm = s.map (·.1)) := hI (by rw [hF1, if_neg hn]; cases s <;> rfl)
    clear hF1 HF
    go_wp2
    exact ⟨⟨k + 1, n, s, by omega, by go_num, rfl, by omega, by omega, hns, hF2, HS, HB2, HR2, HU2⟩, by simp [RowKit.intOf]; omega⟩
  ·obtain rfl : k = x.f1.length := by omega
   have hF := HF.out
   rw [List.take_length] at hF
   obtain ⟨V, nv, cv, hsl⟩ := pc1_slice s
   have hU := HU.out
   rw [hsl] at hU
   have c0 := (cell_blk hU 0).trans rfl
   have c1 := (cell_blk hU 1).trans rfl
   have c2' := (cell_blk hU 2).trans rfl
   have r0 := (cell_blk HR.out 0).trans rfl
   have r1 := (cell_blk HR.out 1).trans rfl
   have r2 := (cell_blk HR.out 2).trans rfl
   have fR : ∀ o, wo.frozen? ⟨w.heap.size + 1, o, none⟩ = false := fun o => frozen_blk HR.out o (by omega)
   have hT := set_blk (set_blk (set_blk HR.out 0 (.string (pc0 s))) 1 (.slice V nv cv)) 2 (.string (pc2 s))
   have hB := ((HB.out.setCell (p := ⟨w.heap.size + 1, 0, none⟩) (by show w.heap.size ≤ w.heap.size + 1; omega) (.string (pc0 s))).setCell (p := ⟨w.heap.size + 1, 1, none⟩) (by show w.heap.size ≤ w.heap.size + 1; omega) (.slice V nv cv)).setCell (p := ⟨w.heap.size + 1, 2, none⟩) (by show w.heap.size ≤ w.heap.size + 1; omega) (.string (pc2 s))
   have hfin : IofPost w0 w x.f1 nm (.returned (.tuple #[.agg #[.string (pc0 s), .slice V nv cv, .string (pc2 s)], .int .i64 n])) (((wo.setCell ⟨w.heap.size + 1, 0, none⟩ (.string (pc0 s))).setCell ⟨w.heap.size + 1, 1, none⟩ (.slice V nv cv)).setCell ⟨w.heap.size + 1, 2, none⟩ (.string (pc2 s))) :=
    ⟨s, n, by rw [pc_eq, hsl], hB, hF, HS.out, hns, hn0, by omega⟩
   have HFin := hI hfin
   clear HF HS HB hU hB hfin hsl hF HU HR hW
   go_wp2
   have t0 := (cell_blk hT 0).trans rfl
   have t1 := (cell_blk hT 1).trans rfl
   have t2 := (cell_blk hT 2).trans rfl
   generalize World.setCell _ _ _ = wz at t0 t1 t2 HFin ⊢
   refine bodyPost_ret (v := .tuple #[.agg #[.string (pc0 s), .slice V nv cv, .string (pc2 s)], .int .i64 n]) ?_ rfl HFin.out
   simp [results, Tryz.results103, go_sem, t0, t1, t2]
end Go.Proofs.YtcllaplddebilaaGreatDoor
end
section
namespace Go.Proofs.YtcllaplddebilaaGreatDoor.PFnKMatch
open Go.RowKit Go.Proofs.YtcllaplddebilaaGreatDoorW.PrintWords Go.Proofs.YtcllaplddebilaaGreatDoorW.PrintLast Go.Proofs.YtcllaplddebilaaGreatDoorW.PrintMore
attribute [local go_sem] max2_int min2_int max_two min_two max_three min_three max_four min_four
def spec_iascii.l0 : Nat → ByteArray → Int → Option (Bool)
 | 0, _, _ => none
 | k + 1, x0, x3 => if x3 < (x0.size : Int) then (if 0 ≤ x3 then (if (bt x0 x3) > 126 then (some false) else (spec_iascii.l0 k x0 (wrap64 (x3 + 1)))) else (none)) else (some true)
def spec_iascii.f (k : Nat) (a0 : ByteArray) : Option (Bool) := spec_iascii.l0 k a0 0
theorem spec_iascii.calls (k : Nat) (a0 : ByteArray) (r : Bool) (w : World) (h : spec_iascii.f k a0 = some r) :
  Calls Tryz.prog 149 #[.string a0] w fun e w' => e = .returned (.bool r) ∧ Drawn0 w w' := by
 have H : (spec_iascii.l0 k a0 0) = some r := h
 clear h
 have H' := Aside0.mk H
 clear H
 go_enter Tryz.func149, Tryz.ntmps149
 go_wp2
 go_loopg [3] k (fun kq v3 w' => ∃ (x3_1 : Int), v3 = .int .i64 x3_1 ∧ Aside0 (spec_iascii.l0 kq a0 x3_1 = some r) ∧ Aside0 (kq ≤ k) ∧ Drawn0 w w')
 case atStart => exact ⟨(0), (by first | rfl | (simp; done) | (simp [*]; done)), H', ⟨Nat.le_refl _⟩, by repeat (first | exact Drawn0.refl _ | apply Drawn0.step)⟩
 case round =>
  clear H'
  try clear c1
  obtain ⟨x3_1, rfl, HA, HK1, ⟨m1, rfl⟩⟩ := hrel
  cases gk with
  | zero => exact absurd HA.out (by simp [spec_iascii.l0])
  | succ k1 =>
   have H := HA.out
   clear HA
   simp only [spec_iascii.l0] at H
   by_cases c2 : x3_1 < (a0.size : Int)
   ·rw [if_pos c2] at H
    have c2b0 : decide (x3_1 < (a0.size : Int)) = true := decide_eq_true c2
    clear c2
    by_cases c3 : 0 ≤ x3_1
    ·rw [if_pos c3] at H
     have c3b0 : decide (0 ≤ x3_1) = true := decide_eq_true c3
     clear c3
     by_cases c5 : (bt a0 x3_1) > 126
     ·rw [if_pos c5] at H
      have c5b0 : decide (126 < (bt a0 x3_1)) = true := decide_eq_true c5
      clear c5
      obtain rfl := Option.some.inj H
      have p4 : 0 ≤ (x3_1 : Int) := of_decide_eq_true (by first | (with_reducible assumption) | assumption)
      have q4 : x3_1 < (a0.size : Int) := of_decide_eq_true (by first | (with_reducible assumption) | assumption)
      have hx4 := bt_at a0 x3_1
      replace p4 := eq_true p4
      replace q4 := eq_true q4
      go_wp2
      go_ret
      exact ⟨by first | rfl | (simp; done) | (simp [*]; done), by repeat (first | exact Drawn0.refl _ | apply Drawn0.step)⟩
     ·rw [if_neg c5] at H
      have c5b0 : decide (126 < (bt a0 x3_1)) = false := decide_eq_false c5
      clear c5
      have H' := Aside0.mk H
      clear H
      have p4 : 0 ≤ (x3_1 : Int) := of_decide_eq_true (by first | (with_reducible assumption) | assumption)
      have q4 : x3_1 < (a0.size : Int) := of_decide_eq_true (by first | (with_reducible assumption) | assumption)
      have hx4 := bt_at a0 x3_1
      replace p4 := eq_true p4
      replace q4 := eq_true q4
      go_wp2
      go_roundg k1
      case measure => have := HK1.out; omega
      case rel => exact ⟨(wrap64 (x3_1 + 1)), (by first | rfl | (simp; done) | (simp [*]; done)), H', ⟨by have := HK1.out; omega⟩, by repeat (first | exact Drawn0.refl _ | apply Drawn0.step)⟩
    ·rw [if_neg c3] at H
     exact absurd H (by simp)
   ·rw [if_neg c2] at H
    have c2b0 : decide (x3_1 < (a0.size : Int)) = false := decide_eq_false c2
    clear c2
    obtain rfl := Option.some.inj H
    go_wp2
    go_ret
    exact ⟨by first | rfl | (simp; done) | (simp [*]; done), by repeat (first | exact Drawn0.refl _ | apply Drawn0.step)⟩
def spec_imoments.l0 : Nat → ByteArray → List ByteArray → Int → Int → Option (Bool)
 | 0, _, _, _, _ => none
 | k + 1, x0, x5, x6, x7 => if x7 < x6 then (if 0 ≤ x7 then (if x7 < (x5.length : Int) then (if (rdOf ByteArray.empty x5 x7).toList = x0.toList then (some true) else (spec_imoments.l0 k x0 x5 x6 (wrap64 (x7 + 1)))) else (none)) else (none)) else (some false)
def spec_imoments.f (k : Nat) (a0 : ByteArray) : Option (Bool) := (some (([(⟨#[68, 84, 83, 84, 65, 82, 84]⟩ : ByteArray), (⟨#[68, 84, 69, 78, 68]⟩ : ByteArray), (⟨#[68, 85, 69]⟩ : ByteArray), (⟨#[67, 79, 77, 80, 76, 69, 84, 69, 68]⟩ : ByteArray), (⟨#[82, 69, 67, 85, 82, 82, 69, 78, 67, 69, 45, 73, 68]⟩ : ByteArray), (⟨#[67, 82, 69, 65, 84, 69, 68]⟩ : ByteArray), (⟨#[68, 84, 83, 84, 65, 77, 80]⟩ : ByteArray), (⟨#[76, 65, 83, 84, 45, 77, 79, 68, 73, 70, 73, 69, 68]⟩ : ByteArray)] : List ByteArray) : List ByteArray)).bind fun y348 => (spec_imoments.l0 k a0 y348 (y348.length : Int) 0)
theorem spec_imoments.calls (k : Nat) (a0 : ByteArray) (r : Bool) (w : World) (h : spec_imoments.f k a0 = some r) :
  Calls Tryz.prog 106 #[.string a0] w fun e w' => e = .returned (.bool r) ∧ Below w.heap.size w w' := by
 have HB := Aside0.mk (Below.refl w.heap.size w)
 have H : ((some (([(⟨#[68, 84, 83, 84, 65, 82, 84]⟩ : ByteArray), (⟨#[68, 84, 69, 78, 68]⟩ : ByteArray), (⟨#[68, 85, 69]⟩ : ByteArray), (⟨#[67, 79, 77, 80, 76, 69, 84, 69, 68]⟩ : ByteArray), (⟨#[82, 69, 67, 85, 82, 82, 69, 78, 67, 69, 45, 73, 68]⟩ : ByteArray), (⟨#[67, 82, 69, 65, 84, 69, 68]⟩ : ByteArray), (⟨#[68, 84, 83, 84, 65, 77, 80]⟩ : ByteArray), (⟨#[76, 65, 83, 84, 45, 77, 79, 68, 73, 70, 73, 69, 68]⟩ : ByteArray)] : List ByteArray) : List ByteArray)).bind fun y348 => (spec_imoments.l0 k a0 y348 (y348.length : Int) 0)) = some r := h
 clear h
 obtain ⟨y348, hy348⟩ : ∃ y_ : List ByteArray, y_ = (([(⟨#[68, 84, 83, 84, 65, 82, 84]⟩ : ByteArray), (⟨#[68, 84, 69, 78, 68]⟩ : ByteArray), (⟨#[68, 85, 69]⟩ : ByteArray), (⟨#[67, 79, 77, 80, 76, 69, 84, 69, 68]⟩ : ByteArray), (⟨#[82, 69, 67, 85, 82, 82, 69, 78, 67, 69, 45, 73, 68]⟩ : ByteArray), (⟨#[67, 82, 69, 65, 84, 69, 68]⟩ : ByteArray), (⟨#[68, 84, 83, 84, 65, 77, 80]⟩ : ByteArray), (⟨#[76, 65, 83, 84, 45, 77, 79, 68, 73, 70, 73, 69, 68]⟩ : ByteArray)] : List ByteArray)) := ⟨_, rfl⟩
 replace H : (spec_imoments.l0 k a0 y348 (y348.length : Int) 0) = some r := by first | (rw [hy348]; with_reducible exact H) | (have H2_ := (Option.bind_some _ _).symm.trans H; rw [hy348]; with_reducible exact H2_) | (have H2_ := (Option.bind_some _ _).symm.trans H; with_reducible exact H2_) | with_reducible exact H | (rw [hy348]; exact H) | exact H
 have Ny348 := Aside0.mk hy348
 clear hy348
 have H' := Aside0.mk H
 clear H
 go_enter Tryz.func106, Tryz.ntmps106
 go_wp2_with (first | ((with_reducible refine gate_dst (N := 5) rfl ?_); refine Kd.R_lit Kd.string _ 9 ?hg (N := 5) ?hd (xs := ([(⟨#[68, 84, 83, 84, 65, 82, 84]⟩ : ByteArray), (⟨#[68, 84, 69, 78, 68]⟩ : ByteArray), (⟨#[68, 85, 69]⟩ : ByteArray), (⟨#[67, 79, 77, 80, 76, 69, 84, 69, 68]⟩ : ByteArray), (⟨#[82, 69, 67, 85, 82, 82, 69, 78, 67, 69, 45, 73, 68]⟩ : ByteArray), (⟨#[67, 82, 69, 65, 84, 69, 68]⟩ : ByteArray), (⟨#[68, 84, 83, 84, 65, 77, 80]⟩ : ByteArray), (⟨#[76, 65, 83, 84, 45, 77, 79, 68, 73, 70, 73, 69, 68]⟩ : ByteArray)] : List ByteArray)) (inner := [.string (⟨#[68, 84, 83, 84, 65, 82, 84]⟩ : ByteArray), .string (⟨#[68, 84, 69, 78, 68]⟩ : ByteArray), .string (⟨#[68, 85, 69]⟩ : ByteArray), .string (⟨#[67, 79, 77, 80, 76, 69, 84, 69, 68]⟩ : ByteArray), .string (⟨#[82, 69, 67, 85, 82, 82, 69, 78, 67, 69, 45, 73, 68]⟩ : ByteArray), .string (⟨#[67, 82, 69, 65, 84, 69, 68]⟩ : ByteArray), .string (⟨#[68, 84, 83, 84, 65, 77, 80]⟩ : ByteArray), .string (⟨#[76, 65, 83, 84, 45, 77, 79, 68, 73, 70, 73, 69, 68]⟩ : ByteArray)]) (ok := fun _ => True) (okp := fun _ => True) ?hr ?hp (fun _ hk => hk) trivial (Below.refl _ _) (Nat.le_refl _) (by simp) ?_; (case hd => rfl); (case hg => rfl); (case hr => first | (go_simp; done) | (go_simp; rfl)); (case hp => exact (Reps.one (show Kd.M Kd.string _ _ _ (⟨#[68, 84, 83, 84, 65, 82, 84]⟩ : ByteArray) [.string (⟨#[68, 84, 83, 84, 65, 82, 84]⟩ : ByteArray)] from rfl) (Reps.one (show Kd.M Kd.string _ _ _ (⟨#[68, 84, 69, 78, 68]⟩ : ByteArray) [.string (⟨#[68, 84, 69, 78, 68]⟩ : ByteArray)] from rfl) (Reps.one (show Kd.M Kd.string _ _ _ (⟨#[68, 85, 69]⟩ : ByteArray) [.string (⟨#[68, 85, 69]⟩ : ByteArray)] from rfl) (Reps.one (show Kd.M Kd.string _ _ _ (⟨#[67, 79, 77, 80, 76, 69, 84, 69, 68]⟩ : ByteArray) [.string (⟨#[67, 79, 77, 80, 76, 69, 84, 69, 68]⟩ : ByteArray)] from rfl) (Reps.one (show Kd.M Kd.string _ _ _ (⟨#[82, 69, 67, 85, 82, 82, 69, 78, 67, 69, 45, 73, 68]⟩ : ByteArray) [.string (⟨#[82, 69, 67, 85, 82, 82, 69, 78, 67, 69, 45, 73, 68]⟩ : ByteArray)] from rfl) (Reps.one (show Kd.M Kd.string _ _ _ (⟨#[67, 82, 69, 65, 84, 69, 68]⟩ : ByteArray) [.string (⟨#[67, 82, 69, 65, 84, 69, 68]⟩ : ByteArray)] from rfl) (Reps.one (show Kd.M Kd.string _ _ _ (⟨#[68, 84, 83, 84, 65, 77, 80]⟩ : ByteArray) [.string (⟨#[68, 84, 83, 84, 65, 77, 80]⟩ : ByteArray)] from rfl) (Reps.one (show Kd.M Kd.string _ _ _ (⟨#[76, 65, 83, 84, 45, 77, 79, 68, 73, 70, 73, 69, 68]⟩ : ByteArray) [.string (⟨#[76, 65, 83, 84, 45, 77, 79, 68, 73, 70, 73, 69, 68]⟩ : ByteArray)] from rfl) (Reps.none _ _)))))))))); intro v349 w2 ho3 hb hg_ hnew_; clear hg_ hnew_; (first | rw [← Ny348.out] at ho3 | (simp only [Int.reduceToNat] at ho3; rw [← Ny348.out] at ho3)); have n0_ := Aside0.mk (Kd.R_lower ho3 (below_size (by repeat (first | (with_reducible first | exact HB.out | apply below_alloc | apply pw_below_drewN | apply below_drew1) | exact HB.out)))); have n1_ := Aside0.mk (below_step (by repeat (first | (with_reducible first | exact HB.out | apply below_alloc | apply pw_below_drewN | apply below_drew1) | exact HB.out)) hb); clear HB; have HO350 := n0_; have HB := n1_; clear n0_ n1_; clear hb ho3; obtain ⟨Ao4, co4, eo4⟩ := Kd.R_slice HO350.out; subst eo4))
 go_loopg [7] k (fun kq v7 w' => ∃ (x7_1 : Int), v7 = .int .i64 x7_1 ∧ Aside0 (spec_imoments.l0 kq a0 y348 (y348.length : Int) x7_1 = some r) ∧ Aside0 (kq ≤ k) ∧ Aside0 (Kd.R Kd.string 9 w' w.heap.size (fun _ => True) (.slice Ao4 y348.length co4) y348) ∧ Aside0 (Below w.heap.size w w'))
 case atStart => exact ⟨(0), (by first | rfl | (simp; done) | (simp [*]; done)), H', ⟨Nat.le_refl _⟩, ⟨by (with_reducible repeat (first | apply Kd.R_alloc | apply Kd.R_drewN | apply Kd.R_drew)); exact HO350.out⟩, ⟨by repeat (first | (with_reducible first | exact HB.out | apply below_alloc | apply pw_below_drewN | apply below_drew1) | exact HB.out)⟩⟩
 case round =>
  clear H'
  try clear c1
  try clear p2
  obtain ⟨x7_1, rfl, HA, HK1, HO_5, HB⟩ := hrel
  cases gk with
  | zero => exact absurd HA.out (by simp [spec_imoments.l0])
  | succ k1 =>
   have H := HA.out
   clear HA
   simp only [spec_imoments.l0] at H
   by_cases c5 : x7_1 < (y348.length : Int)
   ·rw [if_pos c5] at H
    have c5b0 : decide (x7_1 < (y348.length : Int)) = true := decide_eq_true c5
    clear c5
    by_cases c6 : 0 ≤ x7_1
    ·rw [if_pos c6] at H
     have c6b0 : decide (0 ≤ x7_1) = true := decide_eq_true c6
     clear c6
     by_cases c7 : x7_1 < (y348.length : Int)
     ·rw [if_pos c7] at H
      have c7b0 : decide (x7_1 < (y348.length : Int)) = true := decide_eq_true c7
      clear c7
      by_cases c8 : (rdOf ByteArray.empty y348 x7_1).toList = a0.toList
      ·rw [if_pos c8] at H
       have c8b0 : ((rdOf ByteArray.empty y348 x7_1).toList == a0.toList) = true := beq_iff_eq.mpr c8
       have c8b1 : ((rdOf ByteArray.empty y348 x7_1).toList != a0.toList) = false := bne_eq_false_iff_eq.mpr c8
       clear c8
       obtain rfl := Option.some.inj H
       have p351 : 0 ≤ (x7_1 : Int) := of_decide_eq_true (by first | (with_reducible assumption) | assumption)
       have q351 : x7_1 < (y348.length : Int) := of_decide_eq_true (by first | (with_reducible assumption) | assumption)
       obtain ⟨ad351, e351, hx351_0⟩ := Kd.at_string (Kd.R_reads' HO_5.out).2.2 x7_1 p351 q351
       cases e351
       replace p351 := eq_true p351
       replace q351 := eq_true q351
       go_wp2
       go_ret
       exact ⟨by first | rfl | (simp [errW_none, errW_some] <;> rfl) | (simp [*, errW_none, errW_some] <;> rfl), by repeat (first | (with_reducible first | exact HB.out | apply below_alloc | apply pw_below_drewN | apply below_drew1) | exact HB.out)⟩
      ·rw [if_neg c8] at H
       have c8b0 : ((rdOf ByteArray.empty y348 x7_1).toList == a0.toList) = false := beq_eq_false_iff_ne.mpr c8
       have c8b1 : ((rdOf ByteArray.empty y348 x7_1).toList != a0.toList) = true := bne_iff_ne.mpr c8
       have H' := Aside0.mk H
       clear H
       have p351 : 0 ≤ (x7_1 : Int) := of_decide_eq_true (by first | (with_reducible assumption) | assumption)
       have q351 : x7_1 < (y348.length : Int) := of_decide_eq_true (by first | (with_reducible assumption) | assumption)
       obtain ⟨ad351, e351, hx351_0⟩ := Kd.at_string (Kd.R_reads' HO_5.out).2.2 x7_1 p351 q351
       cases e351
       replace p351 := eq_true p351
       replace q351 := eq_true q351
       go_wp2
       go_roundg k1
       case measure => have := HK1.out; omega
       case rel => exact ⟨(wrap64 (x7_1 + 1)), (by first | rfl | (simp; done) | (simp [*]; done)), H', ⟨by have := HK1.out; omega⟩, ⟨by (with_reducible repeat (first | apply Kd.R_alloc | apply Kd.R_drewN | apply Kd.R_drew)); exact HO_5.out⟩, ⟨by repeat (first | (with_reducible first | exact HB.out | apply below_alloc | apply pw_below_drewN | apply below_drew1) | exact HB.out)⟩⟩
     ·rw [if_neg c7] at H
      exact absurd H (by simp)
    ·rw [if_neg c6] at H
     exact absurd H (by simp)
   ·rw [if_neg c5] at H
    have c5b0 : decide (x7_1 < (y348.length : Int)) = false := decide_eq_false c5
    clear c5
    obtain rfl := Option.some.inj H
    go_wp2
    go_ret
    exact ⟨by first | rfl | (simp [errW_none, errW_some] <;> rfl) | (simp [*, errW_none, errW_some] <;> rfl), by repeat (first | (with_reducible first | exact HB.out | apply below_alloc | apply pw_below_drewN | apply below_drew1) | exact HB.out)⟩
end Go.Proofs.YtcllaplddebilaaGreatDoor.PFnKMatch
end
section
namespace Go.Proofs.YtcllaplddebilaaGreatDoor
open Go.RowKit Go.Sort
attribute [local go_sem] cell?_grow frozen?_grow cell?_redrawn frozen?_redrawn size_redrawn size_grow ba_get ba_extract
attribute [local simp] size_redrawn
open Go.Lib Go.Proofs.YtcllaplddebilaaGreatDoorW.PrintWords Go.Proofs.YtcllaplddebilaaGreatDoorW.PrintLast Go.Proofs.YtcllaplddebilaaGreatDoorW.PrintMore PFnKMatch
theorem ascii_l0 (s : ByteArray) (hs : s.size ≤ 4611686018427387904) : ∀ (d i : Nat), i + d = s.size → ∃ r, spec_iascii.l0 (d + 1) s (i : Int) = some r := by
 intro d
 induction d with
 | zero =>
  intro i hi
  exact ⟨true, by show (if (i : Int) < (s.size : Int) then _ else _) = _; rw [if_neg (by omega)]⟩
 | succ d ih =>
  intro i hi
  have e2 : wrap64 ((i : Int) + 1) = ((i + 1 : Nat) : Int) := by unfold wrap64; omega
  obtain ⟨r, hr⟩ := ih (i + 1) (by omega)
  show ∃ r, (if (i : Int) < (s.size : Int) then (if 0 ≤ (i : Int) then (if (bt s i) > 126 then (some false) else (spec_iascii.l0 (d + 1) s (wrap64 ((i : Int) + 1)))) else (none)) else (some true)) = some r
  rw [if_pos (by omega), if_pos (by omega), e2]
  by_cases h : bt s i > 126
  ·exact ⟨false, by rw [if_pos h]⟩
  ·exact ⟨r, by rw [if_neg h]; exact hr⟩
theorem ascii_ex (s : ByteArray) (hs : s.size ≤ 4611686018427387904) : ∃ b : Bool, ∀ w, Calls Tryz.prog 149 #[.string s] w fun e w' => e = .returned (.bool b) ∧ Below w.heap.size w w' := by
 obtain ⟨r, hr⟩ := ascii_l0 s hs s.size 0 (by omega)
 exact ⟨r, fun w => (spec_iascii.calls (s.size + 1) s r w hr).mono (fun e w' h => ⟨h.1, h.2.below⟩)⟩
theorem backslash (s : ByteArray) (w : World) (hm : s.size ≤ 140737488351232) : Calls Tryz.prog 108 #[.string s] w fun e w' => e = .returned (.bool (holdB s { data := #[92] })) ∧ Below w.heap.size w w' := by
 obtain ⟨b, hb⟩ : ∃ b, holdB s { data := #[92] } = b := ⟨_, rfl⟩
 have hc : ∀ w, Calls Tryz.prog 148 #[.string s, .string { data := #[92] }] w fun e w' => e = .returned (.bool b) ∧ Below w.heap.size w w' := fun w => by rw [← hb]; exact holds_is s { data := #[92] } w hm (by decide)
 rw [hb]
 clear hb
 go_enter Tryz.func108, Tryz.ntmps108
 go_wp2_with fail
 refine (hc _).mono ?_
 rintro _ w1 ⟨rfl, hb⟩
 have HB := hI hb
 clear hb
 go_wp2
 go_ret
 exact ⟨rfl, HB.out⟩
def momNames : List ByteArray := [⟨#[68, 84, 83, 84, 65, 82, 84]⟩, ⟨#[68, 84, 69, 78, 68]⟩, ⟨#[68, 85, 69]⟩, ⟨#[67, 79, 77, 80, 76, 69, 84, 69, 68]⟩, ⟨#[82, 69, 67, 85, 82, 82, 69, 78, 67, 69, 45, 73, 68]⟩, ⟨#[67, 82, 69, 65, 84, 69, 68]⟩, ⟨#[68, 84, 83, 84, 65, 77, 80]⟩, ⟨#[76, 65, 83, 84, 45, 77, 79, 68, 73, 70, 73, 69, 68]⟩]
theorem ba_of_toList {a b : ByteArray} (h : a.toList = b.toList) : a = b := tl_eq (by rw [h]; exact beq_self_eq_true _)
theorem moments_l0 (s : ByteArray) : ∀ (d i : Nat), i + d = 8 → ∃ r, spec_imoments.l0 (d + 1) s momNames 8 (i : Int) = some r ∧ (r = true → s ∈ momNames) := by
 intro d
 induction d with
 | zero =>
  intro i hi
  exact ⟨false, by show (if (i : Int) < 8 then _ else _) = _; rw [if_neg (by omega)], fun h => by cases h⟩
 | succ d ih =>
  intro i hi
  have e2 : wrap64 ((i : Int) + 1) = ((i + 1 : Nat) : Int) := by unfold wrap64; omega
  obtain ⟨r, hr, hr2⟩ := ih (i + 1) (by omega)
  show ∃ r, (if (i : Int) < 8 then (if 0 ≤ (i : Int) then (if (i : Int) < (momNames.length : Int) then (if (rdOf ByteArray.empty momNames i).toList = s.toList then (some true) else (spec_imoments.l0 (d + 1) s momNames 8 (wrap64 ((i : Int) + 1)))) else (none)) else (none)) else (some false)) = some r ∧ _
  have hl : (momNames.length : Int) = 8 := rfl
  rw [if_pos (by omega), if_pos (by omega), if_pos (by omega), e2]
  by_cases h : (rdOf ByteArray.empty momNames i).toList = s.toList
  ·refine ⟨true, by rw [if_pos h], fun _ => ?_⟩
   have h1 := ba_of_toList h
   rw [← h1]
   have hlt : i < momNames.length := by show i < 8; omega
   have h2 : rdOf ByteArray.empty momNames (i : Int) = momNames[i] := by
    unfold rdOf
    simp [List.getD_eq_getElem?_getD, List.getElem?_eq_getElem hlt]
   rw [h2]
   exact List.getElem_mem hlt
  ·exact ⟨r, by rw [if_neg h]; exact hr, hr2⟩
theorem moments_ex (s : ByteArray) : ∃ b : Bool, (b = true → s ∈ momNames) ∧ ∀ w, Calls Tryz.prog 106 #[.string s] w fun e w' => e = .returned (.bool b) ∧ Below w.heap.size w w' := by
 obtain ⟨r, hr, h2⟩ := moments_l0 s 8 0 (by omega)
 refine ⟨r, h2, fun w => spec_imoments.calls 9 s r w ?_⟩
 have h3 : spec_imoments.f 9 s = spec_imoments.l0 9 s momNames 8 0 := rfl
 rw [h3]
 exact hr
theorem imo_eq (p : S75) : spec_IMoment.f 100 p.f0 p.f1 p.f2 = some (imo p) := by
 obtain ⟨r, h1, _⟩ := imoment_spec p.f0 p.f1 p.f2
 have := h1 100 (by omega)
 unfold imo
 rw [this]
 rfl
theorem iMoment (p : S75) (V : Option Addr) (cv : Nat) (w0 w : World) (hb : Below w0.heap.size w0 w) (h : PvOk w0 (some (p, V, cv))) : Calls Tryz.prog 104 #[.agg #[.string p.f0, .slice V p.f1.length cv, .string p.f2]] w fun e w' => e = .returned (.tuple #[.int .i64 (imo p).1, .bool (imo p).2.1, .bool (imo p).2.2]) ∧ Below w.heap.size w w' :=
 spec_IMoment.calls 100 p.f0 V cv p.f1 p.f2 (imo p).1 (imo p).2.1 (imo p).2.2 w (Kd.C_below h.2 hb) h.1 (imo_eq p)
theorem imo_ok (p : S75) (h : (imo p).2.2 = true) : ((imo p).2.1 = true ∧ (∃ q u, p.f1 = [q] ∧ q.f0.toList = ([86, 65, 76, 85, 69] : List UInt8) ∧ q.f1 = [u] ∧ u.toList = ([68, 65, 84, 69] : List UInt8)) ∧ DatB p.f2 (imo p).1) ∨ ((imo p).2.1 = false ∧ p.f1 = [] ∧ MomB p.f2 (imo p).1) := by
 obtain ⟨r, h1, h2⟩ := imoment_spec p.f0 p.f1 p.f2
 have h3 := h1 100 (by omega)
 rw [imo_eq] at h3
 injection h3 with h3
 subst h3
 exact h2 h
def TabOk (f : ByteArray → Option ByteArray) : Prop := (∀ n ∈ momNames, f n = some nmDT) ∧ f nmDUR = some nmDUR
theorem momP_of {f : ByteArray → Option ByteArray} {p : S75} (hf : f p.f0 = some nmDT) (h : (imo p).2.2 = true) : MomP f p (imo p).1 ∧ ((imo p).2.1 = true → valT f p = nmDATE) ∧ ((imo p).2.1 = false → valT f p = nmDT) := by
 rcases imo_ok p h with ⟨a, ⟨q, u, hq, hn, hu, huv⟩, hd⟩ | ⟨a, hq, hd⟩
 ·have hqn : q.f0 = { data := #[86, 65, 76, 85, 69] } := ba_of_toList (hn.trans (by rw [Lib.toList_data]))
  have huu : u = nmDATE := ba_of_toList (huv.trans (by rw [Lib.toList_data]; rfl))
  have hg : paramGet p.f1 { data := #[86, 65, 76, 85, 69] } = nmDATE := by
   unfold paramGet lookP
   rw [hq]
   simp [hqn, hu, huu]
  have hv : valT f p = nmDATE := by
   unfold valT
   rw [hg, if_neg (by decide)]
  exact ⟨.inr ⟨hv, hd⟩, fun _ => hv, fun e => by rw [a] at e; cases e⟩
 ·have hg : paramGet p.f1 { data := #[86, 65, 76, 85, 69] } = { data := #[] } := by
   unfold paramGet lookP
   rw [hq]
   rfl
  have hv : valT f p = nmDT := by
   unfold valT
   rw [hg, if_pos rfl, hf]
   rfl
  exact ⟨.inl ⟨hv, hd⟩, (fun e => by rw [a] at e; cases e), fun _ => hv⟩
end Go.Proofs.YtcllaplddebilaaGreatDoor
end

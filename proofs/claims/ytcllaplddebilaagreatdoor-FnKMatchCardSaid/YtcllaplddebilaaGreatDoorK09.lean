/- laws.FnKMatch: a part of the proof: SpB. -/
import Derived.Test.YtcllaplddebilaaGreatDoorK08
set_option maxRecDepth 1000000
set_option maxHeartbeats 64000000
set_option linter.unusedVariables false
set_option linter.unusedSimpArgs false
namespace Go.Proofs.YtcllaplddebilaaGreatDoor.PFnKMatch
open Go.RowKit Go.Proofs.YtcllaplddebilaaGreatDoorW.PrintWords Go.Proofs.YtcllaplddebilaaGreatDoorW.PrintLast Go.Proofs.YtcllaplddebilaaGreatDoorW.PrintMore
attribute [local go_sem] max2_int min2_int max_two min_two max_three min_three max_four min_four
mutual
def spec_IMoment.j0 : Nat → Bool → ByteArray → List (S151) → ByteArray → Option (Int × Bool × Bool)
 | 0, _, _, _, _ => none
 | k + 1, x46, x272000, x272001, x272002 => if x46 = true then ((spec_IDate.f k x272002).bind fun bt276 => (some (wrap64 (bt276.1 * 86400), true, bt276.2))) else (if (x272001.length : Int) > 0 then (spec_IMoment.j1 k x272002 true) else (if (x272002.size : Int) = 16 then (if 8 < (x272002.size : Int) then (if (bt x272002 8) = 84 then (if 15 < (x272002.size : Int) then (spec_IMoment.j1 k x272002 ((bt x272002 15) != 90)) else (none)) else (spec_IMoment.j1 k x272002 true)) else (none)) else (spec_IMoment.j1 k x272002 true)))
def spec_IMoment.j1 : Nat → ByteArray → Bool → Option (Int × Bool × Bool)
 | 0, _, _ => none
 | k + 1, x7, x76 => if x76 = true then (some (0, false, false)) else (if 0 ≤ 8 then (if 8 ≤ (x7.size : Int) then ((spec_IDate.f k (x7.extract 0 8)).bind fun bt278 => (if 9 ≤ 11 then (if 11 ≤ (x7.size : Int) then ((spec_inumber.f k (x7.extract 9 11)).bind fun bt280 => (if 11 ≤ 13 then (if 13 ≤ (x7.size : Int) then ((spec_inumber.f k (x7.extract 11 13)).bind fun bt282 => (if 13 ≤ 15 then (if 15 ≤ (x7.size : Int) then ((spec_inumber.f k (x7.extract 13 15)).bind fun bt284 => (if bt278.2 = true then (if bt280.2 = true then (if bt282.2 = true then (if bt284.2 = true then (if bt280.1 < 24 then (if bt282.1 < 60 then (some (wrap64 ((wrap64 (bt278.1 * 86400)) + (wrap64 ((wrap64 ((wrap64 (3600 * bt280.1)) + (wrap64 (60 * bt282.1)))) + bt284.1))), false, decide (bt284.1 < 60))) else (some (wrap64 ((wrap64 (bt278.1 * 86400)) + (wrap64 ((wrap64 ((wrap64 (3600 * bt280.1)) + (wrap64 (60 * bt282.1)))) + bt284.1))), false, false))) else (some (wrap64 ((wrap64 (bt278.1 * 86400)) + (wrap64 ((wrap64 ((wrap64 (3600 * bt280.1)) + (wrap64 (60 * bt282.1)))) + bt284.1))), false, false))) else (some (wrap64 ((wrap64 (bt278.1 * 86400)) + (wrap64 ((wrap64 ((wrap64 (3600 * bt280.1)) + (wrap64 (60 * bt282.1)))) + bt284.1))), false, false))) else (some (wrap64 ((wrap64 (bt278.1 * 86400)) + (wrap64 ((wrap64 ((wrap64 (3600 * bt280.1)) + (wrap64 (60 * bt282.1)))) + bt284.1))), false, false))) else (some (wrap64 ((wrap64 (bt278.1 * 86400)) + (wrap64 ((wrap64 ((wrap64 (3600 * bt280.1)) + (wrap64 (60 * bt282.1)))) + bt284.1))), false, false))) else (some (wrap64 ((wrap64 (bt278.1 * 86400)) + (wrap64 ((wrap64 ((wrap64 (3600 * bt280.1)) + (wrap64 (60 * bt282.1)))) + bt284.1))), false, false)))) else (none)) else (none))) else (none)) else (none))) else (none)) else (none))) else (none)) else (none))
end
def spec_IMoment.f (k : Nat) (a0_0 : ByteArray) (l0_1 : List (S151)) (a0_2 : ByteArray) : Option (Int × Bool × Bool) := if (l0_1.length : Int) = 1 then (if 0 < (l0_1.length : Int) then (if ((rd_T151 l0_1 0).f0).toList = ([86, 65, 76, 85, 69] : List UInt8) then (if (((rd_T151 l0_1 0).f1).length : Int) = 1 then (if 0 < (((rd_T151 l0_1 0).f1).length : Int) then (spec_IMoment.j0 k ((rdOf ByteArray.empty ((rd_T151 l0_1 0).f1) 0).toList == ([68, 65, 84, 69] : List UInt8)) a0_0 l0_1 a0_2) else (none)) else (spec_IMoment.j0 k false a0_0 l0_1 a0_2)) else (spec_IMoment.j0 k false a0_0 l0_1 a0_2)) else (none)) else (spec_IMoment.j0 k false a0_0 l0_1 a0_2)
theorem spec_IMoment.calls (k : Nat) (a0_0 : ByteArray) (A0_1 : Option Addr) (c0_1 : Nat) (l0_1 : List (S151)) (a0_2 : ByteArray) (r1 : Int) (r2 : Bool) (r3 : Bool) (w : World) (hr0_1 : Kd.C k151 w A0_1 l0_1.length l0_1) (hc0_1 : l0_1.length ≤ c0_1) (h : spec_IMoment.f k a0_0 l0_1 a0_2 = some (r1, r2, r3)) :
  Calls Tryz.prog 104 #[.agg #[.string a0_0, .slice A0_1 l0_1.length c0_1, .string a0_2]] w fun e w' => e = .returned (.tuple #[.int .i64 r1, .bool r2, .bool r3]) ∧ Below w.heap.size w w' := by
 have hu75 := Tryz.underlying75
 have HR0_1 := Aside0.mk hr0_1
 have HC0_1 := Aside0.mk hc0_1
 clear hr0_1 hc0_1
 have HB := Aside0.mk (Below.refl w.heap.size w)
 have H : (if (l0_1.length : Int) = 1 then (if 0 < (l0_1.length : Int) then (if ((rd_T151 l0_1 0).f0).toList = ([86, 65, 76, 85, 69] : List UInt8) then (if (((rd_T151 l0_1 0).f1).length : Int) = 1 then (if 0 < (((rd_T151 l0_1 0).f1).length : Int) then (spec_IMoment.j0 k ((rdOf ByteArray.empty ((rd_T151 l0_1 0).f1) 0).toList == ([68, 65, 84, 69] : List UInt8)) a0_0 l0_1 a0_2) else (none)) else (spec_IMoment.j0 k false a0_0 l0_1 a0_2)) else (spec_IMoment.j0 k false a0_0 l0_1 a0_2)) else (none)) else (spec_IMoment.j0 k false a0_0 l0_1 a0_2)) = some (r1, r2, r3) := h
 clear h
 have HC2 := Aside0.mk H
 clear H
 go_enter Tryz.func104, Tryz.ntmps104
 go_upto_region 1 with (first | ((with_reducible refine gate_dst (N := 1) rfl ?_); (try (refine gate_guard (by rfl) ?_; dsimp only)); refine box_event ?hg (N := 1) ?hd (cs := #[.string a0_0, .slice A0_1 l0_1.length c0_1, .string a0_2]) (t := 75) ?hr ?_; (case hd => rfl); (case hg => rfl); (case hr => first | (go_simp; done) | (go_simp; rfl)); intro gb271 hg w3 hbox hb; have n0_ := Aside0.mk (below_step (by repeat (first | (with_reducible first | exact HB.out | apply below_alloc | apply pw_below_drewN | apply below_drew1) | exact HB.out)) hb); have n1_ := Aside0.mk (hbox); have n2_ := Aside0.mk ((by rw [hg]; exact (below_size (by repeat (first | (with_reducible first | exact HB.out | apply below_alloc | apply pw_below_drewN | apply below_drew1) | exact HB.out))) : w.heap.size ≤ gb271)); have n3_ := Aside0.mk ((by rw [hg]; exact (below_size (by repeat (first | (with_reducible first | exact HB.out | apply below_alloc | apply pw_below_drewN | apply below_drew1) | exact HB.out))) : w.heap.size ≤ gb271)); clear HB; have HB := n0_; have BK271 := n1_; have GW271 := n2_; have GE271 := n3_; clear n0_ n1_ n2_ n3_; clear hb hbox hg))
 (try simp only [Act.put, List.setIfInBounds_toArray, List.set_cons_zero, List.set_cons_succ])
 go_cut [46] (fun v46 wc => ∃ (kq : Nat) (x46_1 : Bool), v46 = .bool x46_1 ∧ Aside0 (spec_IMoment.j0 kq x46_1 a0_0 l0_1 a0_2 = some (r1, r2, r3)) ∧ Aside0 (kq ≤ k) ∧ Aside0 (wc.heap[gb271]? = some (.cells #[.string a0_0, (.slice A0_1 l0_1.length c0_1), .string a0_2] 75)) ∧ Aside0 (Below w.heap.size w wc))
 case first =>
  have H := HC2.out
  clear HC2
  by_cases c4 : (l0_1.length : Int) = 1
  ·rw [if_pos c4] at H
   have c4b0 : ((l0_1.length : Int) == 1) = true := beq_iff_eq.mpr c4
   have c4b1 : ((l0_1.length : Int) != 1) = false := bne_eq_false_iff_eq.mpr c4
   clear c4
   (first | rw [c4b0] | (simp only [i64_w, i32_w]; rw [c4b0]) | skip)
   by_cases c5 : 0 < (l0_1.length : Int)
   ·rw [if_pos c5] at H
    have c5b0 : decide (0 < (l0_1.length : Int)) = true := decide_eq_true c5
    have c5b1 : decide (0 < l0_1.length) = true := decide_eq_true (by omega)
    clear c5
    by_cases c6 : ((rd_T151 l0_1 0).f0).toList = ([86, 65, 76, 85, 69] : List UInt8)
    ·rw [if_pos c6] at H
     have c6b0 : (((rd_T151 l0_1 0).f0).toList == ([86, 65, 76, 85, 69] : List UInt8)) = true := beq_iff_eq.mpr c6
     have c6b1 : (((rd_T151 l0_1 0).f0).toList != ([86, 65, 76, 85, 69] : List UInt8)) = false := bne_eq_false_iff_eq.mpr c6
     clear c6
     by_cases c7 : (((rd_T151 l0_1 0).f1).length : Int) = 1
     ·rw [if_pos c7] at H
      have c7b0 : ((((rd_T151 l0_1 0).f1).length : Int) == 1) = true := beq_iff_eq.mpr c7
      have c7b1 : ((((rd_T151 l0_1 0).f1).length : Int) != 1) = false := bne_eq_false_iff_eq.mpr c7
      clear c7
      by_cases c8 : 0 < (((rd_T151 l0_1 0).f1).length : Int)
      ·rw [if_pos c8] at H
       have c8b0 : decide (0 < (((rd_T151 l0_1 0).f1).length : Int)) = true := decide_eq_true c8
       have c8b1 : decide (0 < ((rd_T151 l0_1 0).f1).length) = true := decide_eq_true (by omega)
       clear c8
       have H' := Aside0.mk H
       clear H
       have hcz9_0 : w3.cell? ⟨gb271, 0, none⟩ = some (.string a0_0) := (blk_cell BK271.out 0).trans rfl
       have hcz9_1 : w3.cell? ⟨gb271, 1, none⟩ = some (.slice A0_1 l0_1.length c0_1) := (blk_cell BK271.out 1).trans rfl
       have hcz9_2 : w3.cell? ⟨gb271, 2, none⟩ = some (.string a0_2) := (blk_cell BK271.out 2).trans rfl
       have hfz9_0 := blk_frozen BK271.out 0
       have hfz9_1 := blk_frozen BK271.out 1
       have hfz9_2 := blk_frozen BK271.out 2
       have p272 : 0 ≤ (0 : Int) := (by omega)
       have q272 : 0 < (l0_1.length : Int) := of_decide_eq_true (by first | (with_reducible assumption) | assumption)
       obtain ⟨ad272, A272_1, c272_1, e272, hx272_0, hx272_1, hl272_1, hi272_1⟩ := at_T151 HR0_1.out 0 p272 q272
       cases e272
       have qi272 : (0 < l0_1.length) = True := eq_true (by omega)
       (try rw [show ((0 : Int)).toNat = 0 from rfl] at hx272_0)
       (try rw [show 0 * 2 = 0 from rfl] at hx272_0)
       (try rw [Addr.add_zero'] at hx272_0)
       (try rw [show ((0 : Int)).toNat = 0 from rfl] at hx272_1)
       (try rw [show 0 * 2 = 0 from rfl] at hx272_1)
       (try rw [Addr.add_zero'] at hx272_1)
       replace hx272_0 := (HB.out.cell (World.block_lt_of_cell? w _ hx272_0)).trans hx272_0
       replace hx272_1 := (HB.out.cell (World.block_lt_of_cell? w _ hx272_1)).trans hx272_1
       have HR272_1 := Aside0.mk hi272_1
       have HC272_1 := Aside0.mk hl272_1
       clear hi272_1 hl272_1
       replace p272 := eq_true p272
       replace q272 := eq_true q272
       have p273 : 0 ≤ (0 : Int) := (by omega)
       have q273 : 0 < (l0_1.length : Int) := of_decide_eq_true (by first | (with_reducible assumption) | assumption)
       obtain ⟨ad273, A273_1, c273_1, e273, hx273_0, hx273_1, hl273_1, hi273_1⟩ := at_T151 HR0_1.out 0 p273 q273
       obtain rfl : ad272 = ad273 := (by injection e273)
       have qi273 : (0 < l0_1.length) = True := eq_true (by omega)
       (try rw [show ((0 : Int)).toNat = 0 from rfl] at hx273_0)
       (try rw [show 0 * 2 = 0 from rfl] at hx273_0)
       (try rw [Addr.add_zero'] at hx273_0)
       (try rw [show ((0 : Int)).toNat = 0 from rfl] at hx273_1)
       (try rw [show 0 * 2 = 0 from rfl] at hx273_1)
       (try rw [Addr.add_zero'] at hx273_1)
       replace hx273_0 := (HB.out.cell (World.block_lt_of_cell? w _ hx273_0)).trans hx273_0
       replace hx273_1 := (HB.out.cell (World.block_lt_of_cell? w _ hx273_1)).trans hx273_1
       have HR273_1 := Aside0.mk hi273_1
       have HC273_1 := Aside0.mk hl273_1
       clear hi273_1 hl273_1
       replace p273 := eq_true p273
       replace q273 := eq_true q273
       have ea_ := Option.some.inj (hx272_1.symm.trans hx273_1)
       injection ea_ with ea_ en_ ec_
       subst ea_
       subst ec_
       clear en_
       have p274 : 0 ≤ (0 : Int) := (by omega)
       have q274 : 0 < (l0_1.length : Int) := of_decide_eq_true (by first | (with_reducible assumption) | assumption)
       obtain ⟨ad274, A274_1, c274_1, e274, hx274_0, hx274_1, hl274_1, hi274_1⟩ := at_T151 HR0_1.out 0 p274 q274
       obtain rfl : ad272 = ad274 := (by injection e274)
       have qi274 : (0 < l0_1.length) = True := eq_true (by omega)
       (try rw [show ((0 : Int)).toNat = 0 from rfl] at hx274_0)
       (try rw [show 0 * 2 = 0 from rfl] at hx274_0)
       (try rw [Addr.add_zero'] at hx274_0)
       (try rw [show ((0 : Int)).toNat = 0 from rfl] at hx274_1)
       (try rw [show 0 * 2 = 0 from rfl] at hx274_1)
       (try rw [Addr.add_zero'] at hx274_1)
       replace hx274_0 := (HB.out.cell (World.block_lt_of_cell? w _ hx274_0)).trans hx274_0
       replace hx274_1 := (HB.out.cell (World.block_lt_of_cell? w _ hx274_1)).trans hx274_1
       have HR274_1 := Aside0.mk hi274_1
       have HC274_1 := Aside0.mk hl274_1
       clear hi274_1 hl274_1
       replace p274 := eq_true p274
       replace q274 := eq_true q274
       have ea_ := Option.some.inj (hx272_1.symm.trans hx274_1)
       injection ea_ with ea_ en_ ec_
       subst ea_
       subst ec_
       clear en_
       have p275 : 0 ≤ (0 : Int) := (by omega)
       have q275 : 0 < (((rd_T151 l0_1 0).f1).length : Int) := of_decide_eq_true (by first | (with_reducible assumption) | assumption)
       obtain ⟨ad275, e275, hx275_0⟩ := Kd.at_string HR274_1.out 0 p275 q275
       cases e275
       have qi275 : (0 < ((rd_T151 l0_1 0).f1).length) = True := eq_true (by omega)
       (try rw [show ((0 : Int)).toNat = 0 from rfl] at hx275_0)
       (try rw [Addr.add_zero'] at hx275_0)
       replace hx275_0 := (HB.out.cell (World.block_lt_of_cell? w _ hx275_0)).trans hx275_0
       replace p275 := eq_true p275
       replace q275 := eq_true q275
       go_wp2
       go_meet
       case rel => exact ⟨_, (((rdOf ByteArray.empty ((rd_T151 l0_1 0).f1) 0).toList == ([68, 65, 84, 69] : List UInt8))), (by first | rfl | (simp; done) | (simp [*]; done)), H', ⟨by first | omega | exact Nat.le_refl _⟩, ⟨by (with_reducible repeat (first | refine blk_drewN ?_ _ | refine blk_drew ?_ | refine blk_alloc ?_ _)); exact BK271.out⟩, ⟨by repeat (first | (with_reducible first | exact HB.out | apply below_alloc | apply pw_below_drewN | apply below_drew1 | refine below_set ?_ GE271.out) | exact HB.out)⟩⟩
      ·rw [if_neg c8] at H
       exact absurd H (by simp)
     ·rw [if_neg c7] at H
      have c7b0 : ((((rd_T151 l0_1 0).f1).length : Int) == 1) = false := beq_eq_false_iff_ne.mpr c7
      have c7b1 : ((((rd_T151 l0_1 0).f1).length : Int) != 1) = true := bne_iff_ne.mpr c7
      have H' := Aside0.mk H
      clear H
      have hcz10_0 : w3.cell? ⟨gb271, 0, none⟩ = some (.string a0_0) := (blk_cell BK271.out 0).trans rfl
      have hcz10_1 : w3.cell? ⟨gb271, 1, none⟩ = some (.slice A0_1 l0_1.length c0_1) := (blk_cell BK271.out 1).trans rfl
      have hcz10_2 : w3.cell? ⟨gb271, 2, none⟩ = some (.string a0_2) := (blk_cell BK271.out 2).trans rfl
      have hfz10_0 := blk_frozen BK271.out 0
      have hfz10_1 := blk_frozen BK271.out 1
      have hfz10_2 := blk_frozen BK271.out 2
      have p272 : 0 ≤ (0 : Int) := (by omega)
      have q272 : 0 < (l0_1.length : Int) := of_decide_eq_true (by first | (with_reducible assumption) | assumption)
      obtain ⟨ad272, A272_1, c272_1, e272, hx272_0, hx272_1, hl272_1, hi272_1⟩ := at_T151 HR0_1.out 0 p272 q272
      cases e272
      have qi272 : (0 < l0_1.length) = True := eq_true (by omega)
      (try rw [show ((0 : Int)).toNat = 0 from rfl] at hx272_0)
      (try rw [show 0 * 2 = 0 from rfl] at hx272_0)
      (try rw [Addr.add_zero'] at hx272_0)
      (try rw [show ((0 : Int)).toNat = 0 from rfl] at hx272_1)
      (try rw [show 0 * 2 = 0 from rfl] at hx272_1)
      (try rw [Addr.add_zero'] at hx272_1)
      replace hx272_0 := (HB.out.cell (World.block_lt_of_cell? w _ hx272_0)).trans hx272_0
      replace hx272_1 := (HB.out.cell (World.block_lt_of_cell? w _ hx272_1)).trans hx272_1
      have HR272_1 := Aside0.mk hi272_1
      have HC272_1 := Aside0.mk hl272_1
      clear hi272_1 hl272_1
      replace p272 := eq_true p272
      replace q272 := eq_true q272
      have p273 : 0 ≤ (0 : Int) := (by omega)
      have q273 : 0 < (l0_1.length : Int) := of_decide_eq_true (by first | (with_reducible assumption) | assumption)
      obtain ⟨ad273, A273_1, c273_1, e273, hx273_0, hx273_1, hl273_1, hi273_1⟩ := at_T151 HR0_1.out 0 p273 q273
      obtain rfl : ad272 = ad273 := (by injection e273)
      have qi273 : (0 < l0_1.length) = True := eq_true (by omega)
      (try rw [show ((0 : Int)).toNat = 0 from rfl] at hx273_0)
      (try rw [show 0 * 2 = 0 from rfl] at hx273_0)
      (try rw [Addr.add_zero'] at hx273_0)
      (try rw [show ((0 : Int)).toNat = 0 from rfl] at hx273_1)
      (try rw [show 0 * 2 = 0 from rfl] at hx273_1)
      (try rw [Addr.add_zero'] at hx273_1)
      replace hx273_0 := (HB.out.cell (World.block_lt_of_cell? w _ hx273_0)).trans hx273_0
      replace hx273_1 := (HB.out.cell (World.block_lt_of_cell? w _ hx273_1)).trans hx273_1
      have HR273_1 := Aside0.mk hi273_1
      have HC273_1 := Aside0.mk hl273_1
      clear hi273_1 hl273_1
      replace p273 := eq_true p273
      replace q273 := eq_true q273
      have ea_ := Option.some.inj (hx272_1.symm.trans hx273_1)
      injection ea_ with ea_ en_ ec_
      subst ea_
      subst ec_
      clear en_
      go_wp2
      go_meet
      case rel => exact ⟨_, (false), (by first | rfl | (simp; done) | (simp [*]; done)), H', ⟨by first | omega | exact Nat.le_refl _⟩, ⟨by (with_reducible repeat (first | refine blk_drewN ?_ _ | refine blk_drew ?_ | refine blk_alloc ?_ _)); exact BK271.out⟩, ⟨by repeat (first | (with_reducible first | exact HB.out | apply below_alloc | apply pw_below_drewN | apply below_drew1 | refine below_set ?_ GE271.out) | exact HB.out)⟩⟩
    ·rw [if_neg c6] at H
     have c6b0 : (((rd_T151 l0_1 0).f0).toList == ([86, 65, 76, 85, 69] : List UInt8)) = false := beq_eq_false_iff_ne.mpr c6
     have c6b1 : (((rd_T151 l0_1 0).f0).toList != ([86, 65, 76, 85, 69] : List UInt8)) = true := bne_iff_ne.mpr c6
     have H' := Aside0.mk H
     clear H
     have hcz11_0 : w3.cell? ⟨gb271, 0, none⟩ = some (.string a0_0) := (blk_cell BK271.out 0).trans rfl
     have hcz11_1 : w3.cell? ⟨gb271, 1, none⟩ = some (.slice A0_1 l0_1.length c0_1) := (blk_cell BK271.out 1).trans rfl
     have hcz11_2 : w3.cell? ⟨gb271, 2, none⟩ = some (.string a0_2) := (blk_cell BK271.out 2).trans rfl
     have hfz11_0 := blk_frozen BK271.out 0
     have hfz11_1 := blk_frozen BK271.out 1
     have hfz11_2 := blk_frozen BK271.out 2
     have p272 : 0 ≤ (0 : Int) := (by omega)
     have q272 : 0 < (l0_1.length : Int) := of_decide_eq_true (by first | (with_reducible assumption) | assumption)
     obtain ⟨ad272, A272_1, c272_1, e272, hx272_0, hx272_1, hl272_1, hi272_1⟩ := at_T151 HR0_1.out 0 p272 q272
     cases e272
     have qi272 : (0 < l0_1.length) = True := eq_true (by omega)
     (try rw [show ((0 : Int)).toNat = 0 from rfl] at hx272_0)
     (try rw [show 0 * 2 = 0 from rfl] at hx272_0)
     (try rw [Addr.add_zero'] at hx272_0)
     (try rw [show ((0 : Int)).toNat = 0 from rfl] at hx272_1)
     (try rw [show 0 * 2 = 0 from rfl] at hx272_1)
     (try rw [Addr.add_zero'] at hx272_1)
     replace hx272_0 := (HB.out.cell (World.block_lt_of_cell? w _ hx272_0)).trans hx272_0
     replace hx272_1 := (HB.out.cell (World.block_lt_of_cell? w _ hx272_1)).trans hx272_1
     have HR272_1 := Aside0.mk hi272_1
     have HC272_1 := Aside0.mk hl272_1
     clear hi272_1 hl272_1
     replace p272 := eq_true p272
     replace q272 := eq_true q272
     go_wp2
     go_meet
     case rel => exact ⟨_, (false), (by first | rfl | (simp; done) | (simp [*]; done)), H', ⟨by first | omega | exact Nat.le_refl _⟩, ⟨by (with_reducible repeat (first | refine blk_drewN ?_ _ | refine blk_drew ?_ | refine blk_alloc ?_ _)); exact BK271.out⟩, ⟨by repeat (first | (with_reducible first | exact HB.out | apply below_alloc | apply pw_below_drewN | apply below_drew1 | refine below_set ?_ GE271.out) | exact HB.out)⟩⟩
   ·rw [if_neg c5] at H
    exact absurd H (by simp)
  ·rw [if_neg c4] at H
   have c4b0 : ((l0_1.length : Int) == 1) = false := beq_eq_false_iff_ne.mpr c4
   have c4b1 : ((l0_1.length : Int) != 1) = true := bne_iff_ne.mpr c4
   (first | rw [c4b0] | (simp only [i64_w, i32_w]; rw [c4b0]) | skip)
   have H' := Aside0.mk H
   clear H
   have hcz12_0 : w3.cell? ⟨gb271, 0, none⟩ = some (.string a0_0) := (blk_cell BK271.out 0).trans rfl
   have hcz12_1 : w3.cell? ⟨gb271, 1, none⟩ = some (.slice A0_1 l0_1.length c0_1) := (blk_cell BK271.out 1).trans rfl
   have hcz12_2 : w3.cell? ⟨gb271, 2, none⟩ = some (.string a0_2) := (blk_cell BK271.out 2).trans rfl
   have hfz12_0 := blk_frozen BK271.out 0
   have hfz12_1 := blk_frozen BK271.out 1
   have hfz12_2 := blk_frozen BK271.out 2
   go_wp2
   go_meet
   case rel => exact ⟨_, (false), (by first | rfl | (simp; done) | (simp [*]; done)), H', ⟨by first | omega | exact Nat.le_refl _⟩, ⟨by (with_reducible repeat (first | refine blk_drewN ?_ _ | refine blk_drew ?_ | refine blk_alloc ?_ _)); exact BK271.out⟩, ⟨by repeat (first | (with_reducible first | exact HB.out | apply below_alloc | apply pw_below_drewN | apply below_drew1 | refine below_set ?_ GE271.out) | exact HB.out)⟩⟩
 case rest =>
  clear HC2
  try clear c1
  try clear c2
  try clear p2
  try clear q2
  try clear hx2
  try clear qi2
  try clear c4
  try clear c4b0
  try clear c4b1
  try clear c5
  try clear c5b0
  try clear c5b1
  try clear c6
  try clear c6b0
  try clear c6b1
  try clear c7
  try clear c7b0
  try clear c7b1
  try clear c8
  try clear c8b0
  try clear c8b1
  try clear c10
  try clear hcz10_0
  try clear hcz10_1
  try clear hcz10_2
  try clear hcz11_0
  try clear hcz11_1
  try clear hcz11_2
  try clear hcz12_0
  try clear hcz12_1
  try clear hcz12_2
  try clear hcz9_0
  try clear hcz9_1
  try clear hcz9_2
  try clear hfz10_0
  try clear hfz10_1
  try clear hfz10_2
  try clear hfz11_0
  try clear hfz11_1
  try clear hfz11_2
  try clear hfz12_0
  try clear hfz12_1
  try clear hfz12_2
  try clear hfz9_0
  try clear hfz9_1
  try clear hfz9_2
  try clear hx272_0
  try clear hx272_1
  try clear hx273_0
  try clear hx273_1
  try clear hx274_0
  try clear hx274_1
  try clear hx275_0
  try clear p272
  try clear p273
  try clear p274
  try clear p275
  try clear q272
  try clear q273
  try clear q274
  try clear q275
  obtain ⟨kq, x46_1, rfl, HA, HJ1, BK271, HB⟩ := hcut
  cases kq with
  | zero => exact absurd HA.out (by simp [spec_IMoment.j0])
  | succ kj1 =>
   have H := HA.out
   clear HA
   simp only [spec_IMoment.j0] at H
   by_cases c13 : x46_1 = true
   ·subst c13
    have H1 : ((spec_IDate.f kj1 a0_2).bind fun bt276 => (some (wrap64 (bt276.1 * 86400), true, bt276.2))) = some (r1, r2, r3) := by rw [if_pos rfl] at H; exact H
    clear H
    have H := H1
    clear H1
    replace H := Option.bind_eq_some_iff.mp H
    obtain ⟨⟨t276, t277⟩, A140, H⟩ := H
    replace H : (some (wrap64 (t276 * 86400), true, t277)) = some (r1, r2, r3) := H
    have A14 := Aside0.mk A140
    clear A140
    simp only [Option.some.injEq, Prod.mk.injEq] at H
    obtain ⟨rfl, rfl, rfl⟩ := H
    have hcz15_0 : wc.cell? ⟨gb271, 0, none⟩ = some (.string a0_0) := (blk_cell BK271.out 0).trans rfl
    have hcz15_1 : wc.cell? ⟨gb271, 1, none⟩ = some (.slice A0_1 l0_1.length c0_1) := (blk_cell BK271.out 1).trans rfl
    have hcz15_2 : wc.cell? ⟨gb271, 2, none⟩ = some (.string a0_2) := (blk_cell BK271.out 2).trans rfl
    have hfz15_0 := blk_frozen BK271.out 0
    have hfz15_1 := blk_frozen BK271.out 1
    have hfz15_2 := blk_frozen BK271.out 2
    go_wp2_with (first | ((with_reducible refine gate_callee (f := 146) rfl ?_); refine goesL_ (some 50) rfl rfl Tryz.func146 (by kernel_rfl) rfl #[.string a0_2] rfl (by (try simp only [List.map_toArray, List.map_cons, List.map_nil]); first | done | rfl | (simp only [List.length_drop, List.length_take]; rfl)) ?_; (with_reducible refine (spec_IDate.calls kj1 a0_2 t276 t277 _ A14.out).mono ?_); rintro e w' ⟨rfl, ⟨nd, rfl⟩⟩; refine ⟨_, rfl, ?_⟩))
    go_ret3
    exact ⟨by first | rfl | (simp [errW_none, errW_some] <;> rfl) | (simp [*, errW_none, errW_some] <;> rfl), by repeat (first | (with_reducible first | exact HB.out | apply below_alloc | apply pw_below_drewN | apply below_drew1 | refine below_set ?_ GE271.out) | exact HB.out)⟩
   ·replace c13 := Bool.eq_false_iff.mpr c13
    subst c13
    have H1 : (if (l0_1.length : Int) > 0 then (spec_IMoment.j1 kj1 a0_2 true) else (if (a0_2.size : Int) = 16 then (if 8 < (a0_2.size : Int) then (if (bt a0_2 8) = 84 then (if 15 < (a0_2.size : Int) then (spec_IMoment.j1 kj1 a0_2 ((bt a0_2 15) != 90)) else (none)) else (spec_IMoment.j1 kj1 a0_2 true)) else (none)) else (spec_IMoment.j1 kj1 a0_2 true))) = some (r1, r2, r3) := by rw [if_neg (show ¬ (false = true) by decide)] at H; exact H
    clear H
    have H := H1
    clear H1
    have HC16 := Aside0.mk H
    clear H
    have hcz17_0 : wc.cell? ⟨gb271, 0, none⟩ = some (.string a0_0) := (blk_cell BK271.out 0).trans rfl
    have hcz17_1 : wc.cell? ⟨gb271, 1, none⟩ = some (.slice A0_1 l0_1.length c0_1) := (blk_cell BK271.out 1).trans rfl
    have hcz17_2 : wc.cell? ⟨gb271, 2, none⟩ = some (.string a0_2) := (blk_cell BK271.out 2).trans rfl
    have hfz17_0 := blk_frozen BK271.out 0
    have hfz17_1 := blk_frozen BK271.out 1
    have hfz17_2 := blk_frozen BK271.out 2
    go_upto_region 5 with (fail)
    go_cut [76] (fun v76 wc => ∃ (kq : Nat) (x76_15 : Bool), v76 = .bool x76_15 ∧ Aside0 (spec_IMoment.j1 kq a0_2 x76_15 = some (r1, r2, r3)) ∧ Aside0 (kq ≤ kj1) ∧ Aside0 (wc.heap[gb271]? = some (.cells #[.string a0_0, (.slice A0_1 l0_1.length c0_1), .string a0_2] 75)) ∧ Aside0 (Below w.heap.size w wc))
    case first =>
     have H := HC16.out
     clear HC16
     by_cases c18 : (l0_1.length : Int) > 0
     ·rw [if_pos c18] at H
      have c18b0 : decide (0 < (l0_1.length : Int)) = true := decide_eq_true c18
      have c18b1 : decide (0 < l0_1.length) = true := decide_eq_true (by omega)
      clear c18
      (first | rw [c18b0] | (simp only [i64_w, i32_w]; rw [c18b0]) | skip)
      have H' := Aside0.mk H
      clear H
      have hcz19_0 : wc.cell? ⟨gb271, 0, none⟩ = some (.string a0_0) := (blk_cell BK271.out 0).trans rfl
      have hcz19_1 : wc.cell? ⟨gb271, 1, none⟩ = some (.slice A0_1 l0_1.length c0_1) := (blk_cell BK271.out 1).trans rfl
      have hcz19_2 : wc.cell? ⟨gb271, 2, none⟩ = some (.string a0_2) := (blk_cell BK271.out 2).trans rfl
      have hfz19_0 := blk_frozen BK271.out 0
      have hfz19_1 := blk_frozen BK271.out 1
      have hfz19_2 := blk_frozen BK271.out 2
      go_wp2
      go_meet
      case rel => exact ⟨_, (true), (by first | rfl | (simp; done) | (simp [*]; done)), H', ⟨by have := HJ1.out; first | omega | exact Nat.le_refl _⟩, ⟨by (with_reducible repeat (first | refine blk_drewN ?_ _ | refine blk_drew ?_ | refine blk_alloc ?_ _)); exact BK271.out⟩, ⟨by repeat (first | (with_reducible first | exact HB.out | apply below_alloc | apply pw_below_drewN | apply below_drew1 | refine below_set ?_ GE271.out) | exact HB.out)⟩⟩
     ·rw [if_neg c18] at H
      have c18b0 : decide (0 < (l0_1.length : Int)) = false := decide_eq_false c18
      have c18b1 : decide (0 < l0_1.length) = false := decide_eq_false (by omega)
      clear c18
      (first | rw [c18b0] | (simp only [i64_w, i32_w]; rw [c18b0]) | skip)
      by_cases c20 : (a0_2.size : Int) = 16
      ·rw [if_pos c20] at H
       have c20b0 : ((a0_2.size : Int) == 16) = true := beq_iff_eq.mpr c20
       have c20b1 : ((a0_2.size : Int) != 16) = false := bne_eq_false_iff_eq.mpr c20
       clear c20
       by_cases c21 : 8 < (a0_2.size : Int)
       ·rw [if_pos c21] at H
        have c21b0 : decide (8 < (a0_2.size : Int)) = true := decide_eq_true c21
        have c21b1 : decide (8 < a0_2.size) = true := decide_eq_true (by omega)
        clear c21
        by_cases c23 : (bt a0_2 8) = 84
        ·rw [if_pos c23] at H
         have c23b0 : ((bt a0_2 8) == 84) = true := beq_iff_eq.mpr c23
         have c23b1 : ((bt a0_2 8) != 84) = false := bne_eq_false_iff_eq.mpr c23
         clear c23
         by_cases c24 : 15 < (a0_2.size : Int)
         ·rw [if_pos c24] at H
          have c24b0 : decide (15 < (a0_2.size : Int)) = true := decide_eq_true c24
          have c24b1 : decide (15 < a0_2.size) = true := decide_eq_true (by omega)
          clear c24
          have H' := Aside0.mk H
          clear H
          have hcz26_0 : wc.cell? ⟨gb271, 0, none⟩ = some (.string a0_0) := (blk_cell BK271.out 0).trans rfl
          have hcz26_1 : wc.cell? ⟨gb271, 1, none⟩ = some (.slice A0_1 l0_1.length c0_1) := (blk_cell BK271.out 1).trans rfl
          have hcz26_2 : wc.cell? ⟨gb271, 2, none⟩ = some (.string a0_2) := (blk_cell BK271.out 2).trans rfl
          have hfz26_0 := blk_frozen BK271.out 0
          have hfz26_1 := blk_frozen BK271.out 1
          have hfz26_2 := blk_frozen BK271.out 2
          have p22 : 0 ≤ (8 : Int) := (by omega)
          have q22 : 8 < a0_2.size := (by have : (8 : Int) < (a0_2.size : Int) := of_decide_eq_true (by first | (with_reducible assumption) | assumption); omega)
          have hx22 : ∀ h : 8 < a0_2.size, ((a0_2[8]'h).toNat : Int) = bt a0_2 8 := bt_at a0_2 8
          clear p22
          have qi22 : (8 < (a0_2.size : Int)) = True := eq_true (of_decide_eq_true (by first | (with_reducible assumption) | assumption))
          replace q22 := eq_true q22
          have p25 : 0 ≤ (15 : Int) := (by omega)
          have q25 : 15 < a0_2.size := (by have : (15 : Int) < (a0_2.size : Int) := of_decide_eq_true (by first | (with_reducible assumption) | assumption); omega)
          have hx25 : ∀ h : 15 < a0_2.size, ((a0_2[15]'h).toNat : Int) = bt a0_2 15 := bt_at a0_2 15
          clear p25
          have qi25 : (15 < (a0_2.size : Int)) = True := eq_true (of_decide_eq_true (by first | (with_reducible assumption) | assumption))
          replace q25 := eq_true q25
          go_wp2
          go_meet
          case rel => exact ⟨_, (((bt a0_2 15) != 90)), (by first | rfl | (simp; done) | (simp [*]; done)), H', ⟨by have := HJ1.out; first | omega | exact Nat.le_refl _⟩, ⟨by (with_reducible repeat (first | refine blk_drewN ?_ _ | refine blk_drew ?_ | refine blk_alloc ?_ _)); exact BK271.out⟩, ⟨by repeat (first | (with_reducible first | exact HB.out | apply below_alloc | apply pw_below_drewN | apply below_drew1 | refine below_set ?_ GE271.out) | exact HB.out)⟩⟩
         ·rw [if_neg c24] at H
          exact absurd H (by simp)
        ·rw [if_neg c23] at H
         have c23b0 : ((bt a0_2 8) == 84) = false := beq_eq_false_iff_ne.mpr c23
         have c23b1 : ((bt a0_2 8) != 84) = true := bne_iff_ne.mpr c23
         have H' := Aside0.mk H
         clear H
         have hcz27_0 : wc.cell? ⟨gb271, 0, none⟩ = some (.string a0_0) := (blk_cell BK271.out 0).trans rfl
         have hcz27_1 : wc.cell? ⟨gb271, 1, none⟩ = some (.slice A0_1 l0_1.length c0_1) := (blk_cell BK271.out 1).trans rfl
         have hcz27_2 : wc.cell? ⟨gb271, 2, none⟩ = some (.string a0_2) := (blk_cell BK271.out 2).trans rfl
         have hfz27_0 := blk_frozen BK271.out 0
         have hfz27_1 := blk_frozen BK271.out 1
         have hfz27_2 := blk_frozen BK271.out 2
         have p22 : 0 ≤ (8 : Int) := (by omega)
         have q22 : 8 < a0_2.size := (by have : (8 : Int) < (a0_2.size : Int) := of_decide_eq_true (by first | (with_reducible assumption) | assumption); omega)
         have hx22 : ∀ h : 8 < a0_2.size, ((a0_2[8]'h).toNat : Int) = bt a0_2 8 := bt_at a0_2 8
         clear p22
         have qi22 : (8 < (a0_2.size : Int)) = True := eq_true (of_decide_eq_true (by first | (with_reducible assumption) | assumption))
         replace q22 := eq_true q22
         go_wp2
         go_meet
         case rel => exact ⟨_, (true), (by first | rfl | (simp; done) | (simp [*]; done)), H', ⟨by have := HJ1.out; first | omega | exact Nat.le_refl _⟩, ⟨by (with_reducible repeat (first | refine blk_drewN ?_ _ | refine blk_drew ?_ | refine blk_alloc ?_ _)); exact BK271.out⟩, ⟨by repeat (first | (with_reducible first | exact HB.out | apply below_alloc | apply pw_below_drewN | apply below_drew1 | refine below_set ?_ GE271.out) | exact HB.out)⟩⟩
       ·rw [if_neg c21] at H
        exact absurd H (by simp)
      ·rw [if_neg c20] at H
       have c20b0 : ((a0_2.size : Int) == 16) = false := beq_eq_false_iff_ne.mpr c20
       have c20b1 : ((a0_2.size : Int) != 16) = true := bne_iff_ne.mpr c20
       have H' := Aside0.mk H
       clear H
       have hcz28_0 : wc.cell? ⟨gb271, 0, none⟩ = some (.string a0_0) := (blk_cell BK271.out 0).trans rfl
       have hcz28_1 : wc.cell? ⟨gb271, 1, none⟩ = some (.slice A0_1 l0_1.length c0_1) := (blk_cell BK271.out 1).trans rfl
       have hcz28_2 : wc.cell? ⟨gb271, 2, none⟩ = some (.string a0_2) := (blk_cell BK271.out 2).trans rfl
       have hfz28_0 := blk_frozen BK271.out 0
       have hfz28_1 := blk_frozen BK271.out 1
       have hfz28_2 := blk_frozen BK271.out 2
       go_wp2
       go_meet
       case rel => exact ⟨_, (true), (by first | rfl | (simp; done) | (simp [*]; done)), H', ⟨by have := HJ1.out; first | omega | exact Nat.le_refl _⟩, ⟨by (with_reducible repeat (first | refine blk_drewN ?_ _ | refine blk_drew ?_ | refine blk_alloc ?_ _)); exact BK271.out⟩, ⟨by repeat (first | (with_reducible first | exact HB.out | apply below_alloc | apply pw_below_drewN | apply below_drew1 | refine below_set ?_ GE271.out) | exact HB.out)⟩⟩
    case rest =>
     clear HC16
     try clear c1
     try clear c2
     try clear p2
     try clear q2
     try clear hx2
     try clear qi2
     try clear c4
     try clear c4b0
     try clear c4b1
     try clear c5
     try clear c5b0
     try clear c5b1
     try clear c6
     try clear c6b0
     try clear c6b1
     try clear p6
     try clear c7
     try clear c7b0
     try clear c7b1
     try clear c8
     try clear c8b0
     try clear c8b1
     try clear c10
     try clear c13
     try clear c14
     try clear c18
     try clear c18b0
     try clear c18b1
     try clear c20
     try clear c20b0
     try clear c20b1
     try clear c21
     try clear c21b0
     try clear c21b1
     try clear p22
     try clear q22
     try clear hx22
     try clear qi22
     try clear c23
     try clear c23b0
     try clear c23b1
     try clear c24
     try clear c24b0
     try clear c24b1
     try clear p25
     try clear q25
     try clear hx25
     try clear qi25
     try clear c27
     try clear p27
     try clear q27
     try clear hx27
     try clear qi27
     try clear hcz10_0
     try clear hcz10_1
     try clear hcz10_2
     try clear hcz11_0
     try clear hcz11_1
     try clear hcz11_2
     try clear hcz12_0
     try clear hcz12_1
     try clear hcz12_2
     try clear hcz15_0
     try clear hcz15_1
     try clear hcz15_2
     try clear hcz17_0
     try clear hcz17_1
     try clear hcz17_2
     try clear hcz19_0
     try clear hcz19_1
     try clear hcz19_2
     try clear hcz26_0
     try clear hcz26_1
     try clear hcz26_2
     try clear hcz27_0
     try clear hcz27_1
     try clear hcz27_2
     try clear hcz28_0
     try clear hcz28_1
     try clear hcz28_2
     try clear hcz9_0
     try clear hcz9_1
     try clear hcz9_2
     try clear hfz10_0
     try clear hfz10_1
     try clear hfz10_2
     try clear hfz11_0
     try clear hfz11_1
     try clear hfz11_2
     try clear hfz12_0
     try clear hfz12_1
     try clear hfz12_2
     try clear hfz15_0
     try clear hfz15_1
     try clear hfz15_2
     try clear hfz17_0
     try clear hfz17_1
     try clear hfz17_2
     try clear hfz19_0
     try clear hfz19_1
     try clear hfz19_2
     try clear hfz26_0
     try clear hfz26_1
     try clear hfz26_2
     try clear hfz27_0
     try clear hfz27_1
     try clear hfz27_2
     try clear hfz28_0
     try clear hfz28_1
     try clear hfz28_2
     try clear hfz9_0
     try clear hfz9_1
     try clear hfz9_2
     try clear hx272_0
     try clear hx272_1
     try clear hx273_0
     try clear hx273_1
     try clear hx274_0
     try clear hx274_1
     try clear hx275_0
     try clear p2
     try clear p22
     try clear p25
     try clear p272
     try clear p273
     try clear p274
     try clear p275
     try clear q2
     try clear q22
     try clear q25
     try clear q272
     try clear q273
     try clear q274
     try clear q275
     obtain ⟨kq, x76_15, rfl, HA, HJ15, BK271, HB⟩ := hcut
     cases kq with
     | zero => exact absurd HA.out (by simp [spec_IMoment.j1])
     | succ kj15 =>
      have H := HA.out
      clear HA
      simp only [spec_IMoment.j1] at H
      by_cases c29 : x76_15 = true
      ·subst c29
       have H1 : (some (0, false, false)) = some (r1, r2, r3) := by rw [if_pos rfl] at H; exact H
       clear H
       have H := H1
       clear H1
       simp only [Option.some.injEq, Prod.mk.injEq] at H
       obtain ⟨rfl, rfl, rfl⟩ := H
       go_wp2
       go_ret3
       exact ⟨by first | rfl | (simp [errW_none, errW_some] <;> rfl) | (simp [*, errW_none, errW_some] <;> rfl), by repeat (first | (with_reducible first | exact HB.out | apply below_alloc | apply pw_below_drewN | apply below_drew1 | refine below_set ?_ GE271.out) | exact HB.out)⟩
      ·replace c29 := Bool.eq_false_iff.mpr c29
       subst c29
       have H1 : (if 0 ≤ 8 then (if 8 ≤ (a0_2.size : Int) then ((spec_IDate.f kj15 (a0_2.extract 0 8)).bind fun bt278 => (if 9 ≤ 11 then (if 11 ≤ (a0_2.size : Int) then ((spec_inumber.f kj15 (a0_2.extract 9 11)).bind fun bt280 => (if 11 ≤ 13 then (if 13 ≤ (a0_2.size : Int) then ((spec_inumber.f kj15 (a0_2.extract 11 13)).bind fun bt282 => (if 13 ≤ 15 then (if 15 ≤ (a0_2.size : Int) then ((spec_inumber.f kj15 (a0_2.extract 13 15)).bind fun bt284 => (if bt278.2 = true then (if bt280.2 = true then (if bt282.2 = true then (if bt284.2 = true then (if bt280.1 < 24 then (if bt282.1 < 60 then (some (wrap64 ((wrap64 (bt278.1 * 86400)) + (wrap64 ((wrap64 ((wrap64 (3600 * bt280.1)) + (wrap64 (60 * bt282.1)))) + bt284.1))), false, decide (bt284.1 < 60))) else (some (wrap64 ((wrap64 (bt278.1 * 86400)) + (wrap64 ((wrap64 ((wrap64 (3600 * bt280.1)) + (wrap64 (60 * bt282.1)))) + bt284.1))), false, false))) else (some (wrap64 ((wrap64 (bt278.1 * 86400)) + (wrap64 ((wrap64 ((wrap64 (3600 * bt280.1)) + (wrap64 (60 * bt282.1)))) + bt284.1))), false, false))) else (some (wrap64 ((wrap64 (bt278.1 * 86400)) + (wrap64 ((wrap64 ((wrap64 (3600 * bt280.1)) + (wrap64 (60 * bt282.1)))) + bt284.1))), false, false))) else (some (wrap64 ((wrap64 (bt278.1 * 86400)) + (wrap64 ((wrap64 ((wrap64 (3600 * bt280.1)) + (wrap64 (60 * bt282.1)))) + bt284.1))), false, false))) else (some (wrap64 ((wrap64 (bt278.1 * 86400)) + (wrap64 ((wrap64 ((wrap64 (3600 * bt280.1)) + (wrap64 (60 * bt282.1)))) + bt284.1))), false, false))) else (some (wrap64 ((wrap64 (bt278.1 * 86400)) + (wrap64 ((wrap64 ((wrap64 (3600 * bt280.1)) + (wrap64 (60 * bt282.1)))) + bt284.1))), false, false)))) else (none)) else (none))) else (none)) else (none))) else (none)) else (none))) else (none)) else (none)) = some (r1, r2, r3) := by rw [if_neg (show ¬ (false = true) by decide)] at H; exact H
       clear H
       have H := H1
       clear H1
       by_cases c30 : 0 ≤ 8
       ·rw [if_pos c30] at H
        have c30b0 := eq_true c30
        have c30b1 : decide (0 ≤ 8) = true := decide_eq_true c30
        clear c30
        by_cases c31 : 8 ≤ (a0_2.size : Int)
        ·rw [if_pos c31] at H
         have c31b0 := eq_true c31
         have c31b1 : decide (8 ≤ (a0_2.size : Int)) = true := decide_eq_true c31
         clear c31
         replace H := Option.bind_eq_some_iff.mp H
         obtain ⟨⟨t278, t279⟩, A320, H⟩ := H
         replace H : (if 9 ≤ 11 then (if 11 ≤ (a0_2.size : Int) then ((spec_inumber.f kj15 (a0_2.extract 9 11)).bind fun bt280 => (if 11 ≤ 13 then (if 13 ≤ (a0_2.size : Int) then ((spec_inumber.f kj15 (a0_2.extract 11 13)).bind fun bt282 => (if 13 ≤ 15 then (if 15 ≤ (a0_2.size : Int) then ((spec_inumber.f kj15 (a0_2.extract 13 15)).bind fun bt284 => (if t279 = true then (if bt280.2 = true then (if bt282.2 = true then (if bt284.2 = true then (if bt280.1 < 24 then (if bt282.1 < 60 then (some (wrap64 ((wrap64 (t278 * 86400)) + (wrap64 ((wrap64 ((wrap64 (3600 * bt280.1)) + (wrap64 (60 * bt282.1)))) + bt284.1))), false, decide (bt284.1 < 60))) else (some (wrap64 ((wrap64 (t278 * 86400)) + (wrap64 ((wrap64 ((wrap64 (3600 * bt280.1)) + (wrap64 (60 * bt282.1)))) + bt284.1))), false, false))) else (some (wrap64 ((wrap64 (t278 * 86400)) + (wrap64 ((wrap64 ((wrap64 (3600 * bt280.1)) + (wrap64 (60 * bt282.1)))) + bt284.1))), false, false))) else (some (wrap64 ((wrap64 (t278 * 86400)) + (wrap64 ((wrap64 ((wrap64 (3600 * bt280.1)) + (wrap64 (60 * bt282.1)))) + bt284.1))), false, false))) else (some (wrap64 ((wrap64 (t278 * 86400)) + (wrap64 ((wrap64 ((wrap64 (3600 * bt280.1)) + (wrap64 (60 * bt282.1)))) + bt284.1))), false, false))) else (some (wrap64 ((wrap64 (t278 * 86400)) + (wrap64 ((wrap64 ((wrap64 (3600 * bt280.1)) + (wrap64 (60 * bt282.1)))) + bt284.1))), false, false))) else (some (wrap64 ((wrap64 (t278 * 86400)) + (wrap64 ((wrap64 ((wrap64 (3600 * bt280.1)) + (wrap64 (60 * bt282.1)))) + bt284.1))), false, false)))) else (none)) else (none))) else (none)) else (none))) else (none)) else (none)) = some (r1, r2, r3) := H
         have A32 := Aside0.mk A320
         clear A320
         by_cases c33 : 9 ≤ 11
         ·rw [if_pos c33] at H
          have c33b0 := eq_true c33
          have c33b1 : decide (9 ≤ 11) = true := decide_eq_true c33
          clear c33
          by_cases c34 : 11 ≤ (a0_2.size : Int)
          ·rw [if_pos c34] at H
           have c34b0 := eq_true c34
           have c34b1 : decide (11 ≤ (a0_2.size : Int)) = true := decide_eq_true c34
           clear c34
           replace H := Option.bind_eq_some_iff.mp H
           obtain ⟨⟨t280, t281⟩, A350, H⟩ := H
           replace H : (if 11 ≤ 13 then (if 13 ≤ (a0_2.size : Int) then ((spec_inumber.f kj15 (a0_2.extract 11 13)).bind fun bt282 => (if 13 ≤ 15 then (if 15 ≤ (a0_2.size : Int) then ((spec_inumber.f kj15 (a0_2.extract 13 15)).bind fun bt284 => (if t279 = true then (if t281 = true then (if bt282.2 = true then (if bt284.2 = true then (if t280 < 24 then (if bt282.1 < 60 then (some (wrap64 ((wrap64 (t278 * 86400)) + (wrap64 ((wrap64 ((wrap64 (3600 * t280)) + (wrap64 (60 * bt282.1)))) + bt284.1))), false, decide (bt284.1 < 60))) else (some (wrap64 ((wrap64 (t278 * 86400)) + (wrap64 ((wrap64 ((wrap64 (3600 * t280)) + (wrap64 (60 * bt282.1)))) + bt284.1))), false, false))) else (some (wrap64 ((wrap64 (t278 * 86400)) + (wrap64 ((wrap64 ((wrap64 (3600 * t280)) + (wrap64 (60 * bt282.1)))) + bt284.1))), false, false))) else (some (wrap64 ((wrap64 (t278 * 86400)) + (wrap64 ((wrap64 ((wrap64 (3600 * t280)) + (wrap64 (60 * bt282.1)))) + bt284.1))), false, false))) else (some (wrap64 ((wrap64 (t278 * 86400)) + (wrap64 ((wrap64 ((wrap64 (3600 * t280)) + (wrap64 (60 * bt282.1)))) + bt284.1))), false, false))) else (some (wrap64 ((wrap64 (t278 * 86400)) + (wrap64 ((wrap64 ((wrap64 (3600 * t280)) + (wrap64 (60 * bt282.1)))) + bt284.1))), false, false))) else (some (wrap64 ((wrap64 (t278 * 86400)) + (wrap64 ((wrap64 ((wrap64 (3600 * t280)) + (wrap64 (60 * bt282.1)))) + bt284.1))), false, false)))) else (none)) else (none))) else (none)) else (none)) = some (r1, r2, r3) := H
           have A35 := Aside0.mk A350
           clear A350
           by_cases c36 : 11 ≤ 13
           ·rw [if_pos c36] at H
            have c36b0 := eq_true c36
            have c36b1 : decide (11 ≤ 13) = true := decide_eq_true c36
            clear c36
            by_cases c37 : 13 ≤ (a0_2.size : Int)
            ·rw [if_pos c37] at H
             have c37b0 := eq_true c37
             have c37b1 : decide (13 ≤ (a0_2.size : Int)) = true := decide_eq_true c37
             clear c37
             replace H := Option.bind_eq_some_iff.mp H
             obtain ⟨⟨t282, t283⟩, A380, H⟩ := H
             replace H : (if 13 ≤ 15 then (if 15 ≤ (a0_2.size : Int) then ((spec_inumber.f kj15 (a0_2.extract 13 15)).bind fun bt284 => (if t279 = true then (if t281 = true then (if t283 = true then (if bt284.2 = true then (if t280 < 24 then (if t282 < 60 then (some (wrap64 ((wrap64 (t278 * 86400)) + (wrap64 ((wrap64 ((wrap64 (3600 * t280)) + (wrap64 (60 * t282)))) + bt284.1))), false, decide (bt284.1 < 60))) else (some (wrap64 ((wrap64 (t278 * 86400)) + (wrap64 ((wrap64 ((wrap64 (3600 * t280)) + (wrap64 (60 * t282)))) + bt284.1))), false, false))) else (some (wrap64 ((wrap64 (t278 * 86400)) + (wrap64 ((wrap64 ((wrap64 (3600 * t280)) + (wrap64 (60 * t282)))) + bt284.1))), false, false))) else (some (wrap64 ((wrap64 (t278 * 86400)) + (wrap64 ((wrap64 ((wrap64 (3600 * t280)) + (wrap64 (60 * t282)))) + bt284.1))), false, false))) else (some (wrap64 ((wrap64 (t278 * 86400)) + (wrap64 ((wrap64 ((wrap64 (3600 * t280)) + (wrap64 (60 * t282)))) + bt284.1))), false, false))) else (some (wrap64 ((wrap64 (t278 * 86400)) + (wrap64 ((wrap64 ((wrap64 (3600 * t280)) + (wrap64 (60 * t282)))) + bt284.1))), false, false))) else (some (wrap64 ((wrap64 (t278 * 86400)) + (wrap64 ((wrap64 ((wrap64 (3600 * t280)) + (wrap64 (60 * t282)))) + bt284.1))), false, false)))) else (none)) else (none)) = some (r1, r2, r3) := H
             have A38 := Aside0.mk A380
             clear A380
             by_cases c39 : 13 ≤ 15
             ·rw [if_pos c39] at H
              have c39b0 := eq_true c39
              have c39b1 : decide (13 ≤ 15) = true := decide_eq_true c39
              clear c39
              by_cases c40 : 15 ≤ (a0_2.size : Int)
              ·rw [if_pos c40] at H
               have c40b0 := eq_true c40
               have c40b1 : decide (15 ≤ (a0_2.size : Int)) = true := decide_eq_true c40
               clear c40
               replace H := Option.bind_eq_some_iff.mp H
               obtain ⟨⟨t284, t285⟩, A410, H⟩ := H
               replace H : (if t279 = true then (if t281 = true then (if t283 = true then (if t285 = true then (if t280 < 24 then (if t282 < 60 then (some (wrap64 ((wrap64 (t278 * 86400)) + (wrap64 ((wrap64 ((wrap64 (3600 * t280)) + (wrap64 (60 * t282)))) + t284))), false, decide (t284 < 60))) else (some (wrap64 ((wrap64 (t278 * 86400)) + (wrap64 ((wrap64 ((wrap64 (3600 * t280)) + (wrap64 (60 * t282)))) + t284))), false, false))) else (some (wrap64 ((wrap64 (t278 * 86400)) + (wrap64 ((wrap64 ((wrap64 (3600 * t280)) + (wrap64 (60 * t282)))) + t284))), false, false))) else (some (wrap64 ((wrap64 (t278 * 86400)) + (wrap64 ((wrap64 ((wrap64 (3600 * t280)) + (wrap64 (60 * t282)))) + t284))), false, false))) else (some (wrap64 ((wrap64 (t278 * 86400)) + (wrap64 ((wrap64 ((wrap64 (3600 * t280)) + (wrap64 (60 * t282)))) + t284))), false, false))) else (some (wrap64 ((wrap64 (t278 * 86400)) + (wrap64 ((wrap64 ((wrap64 (3600 * t280)) + (wrap64 (60 * t282)))) + t284))), false, false))) else (some (wrap64 ((wrap64 (t278 * 86400)) + (wrap64 ((wrap64 ((wrap64 (3600 * t280)) + (wrap64 (60 * t282)))) + t284))), false, false))) = some (r1, r2, r3) := H
               have A41 := Aside0.mk A410
               clear A410
               by_cases c42 : t279 = true
               ·subst c42
                have H1 : (if t281 = true then (if t283 = true then (if t285 = true then (if t280 < 24 then (if t282 < 60 then (some (wrap64 ((wrap64 (t278 * 86400)) + (wrap64 ((wrap64 ((wrap64 (3600 * t280)) + (wrap64 (60 * t282)))) + t284))), false, decide (t284 < 60))) else (some (wrap64 ((wrap64 (t278 * 86400)) + (wrap64 ((wrap64 ((wrap64 (3600 * t280)) + (wrap64 (60 * t282)))) + t284))), false, false))) else (some (wrap64 ((wrap64 (t278 * 86400)) + (wrap64 ((wrap64 ((wrap64 (3600 * t280)) + (wrap64 (60 * t282)))) + t284))), false, false))) else (some (wrap64 ((wrap64 (t278 * 86400)) + (wrap64 ((wrap64 ((wrap64 (3600 * t280)) + (wrap64 (60 * t282)))) + t284))), false, false))) else (some (wrap64 ((wrap64 (t278 * 86400)) + (wrap64 ((wrap64 ((wrap64 (3600 * t280)) + (wrap64 (60 * t282)))) + t284))), false, false))) else (some (wrap64 ((wrap64 (t278 * 86400)) + (wrap64 ((wrap64 ((wrap64 (3600 * t280)) + (wrap64 (60 * t282)))) + t284))), false, false))) = some (r1, r2, r3) := by rw [if_pos rfl] at H; exact H
                clear H
                have H := H1
                clear H1
                by_cases c43 : t281 = true
                ·subst c43
                 have H1 : (if t283 = true then (if t285 = true then (if t280 < 24 then (if t282 < 60 then (some (wrap64 ((wrap64 (t278 * 86400)) + (wrap64 ((wrap64 ((wrap64 (3600 * t280)) + (wrap64 (60 * t282)))) + t284))), false, decide (t284 < 60))) else (some (wrap64 ((wrap64 (t278 * 86400)) + (wrap64 ((wrap64 ((wrap64 (3600 * t280)) + (wrap64 (60 * t282)))) + t284))), false, false))) else (some (wrap64 ((wrap64 (t278 * 86400)) + (wrap64 ((wrap64 ((wrap64 (3600 * t280)) + (wrap64 (60 * t282)))) + t284))), false, false))) else (some (wrap64 ((wrap64 (t278 * 86400)) + (wrap64 ((wrap64 ((wrap64 (3600 * t280)) + (wrap64 (60 * t282)))) + t284))), false, false))) else (some (wrap64 ((wrap64 (t278 * 86400)) + (wrap64 ((wrap64 ((wrap64 (3600 * t280)) + (wrap64 (60 * t282)))) + t284))), false, false))) = some (r1, r2, r3) := by rw [if_pos rfl] at H; exact H
                 clear H
                 have H := H1
                 clear H1
                 by_cases c44 : t283 = true
                 ·subst c44
                  have H1 : (if t285 = true then (if t280 < 24 then (if t282 < 60 then (some (wrap64 ((wrap64 (t278 * 86400)) + (wrap64 ((wrap64 ((wrap64 (3600 * t280)) + (wrap64 (60 * t282)))) + t284))), false, decide (t284 < 60))) else (some (wrap64 ((wrap64 (t278 * 86400)) + (wrap64 ((wrap64 ((wrap64 (3600 * t280)) + (wrap64 (60 * t282)))) + t284))), false, false))) else (some (wrap64 ((wrap64 (t278 * 86400)) + (wrap64 ((wrap64 ((wrap64 (3600 * t280)) + (wrap64 (60 * t282)))) + t284))), false, false))) else (some (wrap64 ((wrap64 (t278 * 86400)) + (wrap64 ((wrap64 ((wrap64 (3600 * t280)) + (wrap64 (60 * t282)))) + t284))), false, false))) = some (r1, r2, r3) := by rw [if_pos rfl] at H; exact H
                  clear H
                  have H := H1
                  clear H1
                  by_cases c45 : t285 = true
                  ·subst c45
                   have H1 : (if t280 < 24 then (if t282 < 60 then (some (wrap64 ((wrap64 (t278 * 86400)) + (wrap64 ((wrap64 ((wrap64 (3600 * t280)) + (wrap64 (60 * t282)))) + t284))), false, decide (t284 < 60))) else (some (wrap64 ((wrap64 (t278 * 86400)) + (wrap64 ((wrap64 ((wrap64 (3600 * t280)) + (wrap64 (60 * t282)))) + t284))), false, false))) else (some (wrap64 ((wrap64 (t278 * 86400)) + (wrap64 ((wrap64 ((wrap64 (3600 * t280)) + (wrap64 (60 * t282)))) + t284))), false, false))) = some (r1, r2, r3) := by rw [if_pos rfl] at H; exact H
                   clear H
                   have H := H1
                   clear H1
                   by_cases c46 : t280 < 24
                   ·rw [if_pos c46] at H
                    have c46b0 : decide (t280 < 24) = true := decide_eq_true c46
                    clear c46
                    by_cases c47 : t282 < 60
                    ·rw [if_pos c47] at H
                     have c47b0 : decide (t282 < 60) = true := decide_eq_true c47
                     clear c47
                     simp only [Option.some.injEq, Prod.mk.injEq] at H
                     obtain ⟨rfl, rfl, rfl⟩ := H
                     go_wp2_with (first | ((with_reducible refine gate_callee (f := 146) rfl ?_); refine goesL_ (some 80) rfl rfl Tryz.func146 (by kernel_rfl) rfl #[.string (a0_2.extract 0 8)] rfl (by (try simp only [List.map_toArray, List.map_cons, List.map_nil]); first | done | rfl | (simp only [List.length_drop, List.length_take]; rfl)) ?_; (with_reducible refine (spec_IDate.calls kj15 (a0_2.extract 0 8) t278 true _ A32.out).mono ?_); rintro e w' ⟨rfl, ⟨nd, rfl⟩⟩; refine ⟨_, rfl, ?_⟩) | ((with_reducible refine gate_callee (f := 147) rfl ?_); refine goesL_ (some 86) rfl rfl Tryz.func147 (by kernel_rfl) rfl #[.string (a0_2.extract 9 11)] rfl (by (try simp only [List.map_toArray, List.map_cons, List.map_nil]); first | done | rfl | (simp only [List.length_drop, List.length_take]; rfl)) ?_; (with_reducible refine (spec_inumber.calls kj15 (a0_2.extract 9 11) t280 true _ A35.out).mono ?_); rintro e w' ⟨rfl, ⟨nd, rfl⟩⟩; refine ⟨_, rfl, ?_⟩) | ((with_reducible refine gate_callee (f := 147) rfl ?_); refine goesL_ (some 92) rfl rfl Tryz.func147 (by kernel_rfl) rfl #[.string (a0_2.extract 11 13)] rfl (by (try simp only [List.map_toArray, List.map_cons, List.map_nil]); first | done | rfl | (simp only [List.length_drop, List.length_take]; rfl)) ?_; (with_reducible refine (spec_inumber.calls kj15 (a0_2.extract 11 13) t282 true _ A38.out).mono ?_); rintro e w' ⟨rfl, ⟨nd, rfl⟩⟩; refine ⟨_, rfl, ?_⟩) | ((with_reducible refine gate_callee (f := 147) rfl ?_); refine goesL_ (some 98) rfl rfl Tryz.func147 (by kernel_rfl) rfl #[.string (a0_2.extract 13 15)] rfl (by (try simp only [List.map_toArray, List.map_cons, List.map_nil]); first | done | rfl | (simp only [List.length_drop, List.length_take]; rfl)) ?_; (with_reducible refine (spec_inumber.calls kj15 (a0_2.extract 13 15) t284 true _ A41.out).mono ?_); rintro e w' ⟨rfl, ⟨nd, rfl⟩⟩; refine ⟨_, rfl, ?_⟩))
                     go_ret3
                     exact ⟨by first | rfl | (simp [errW_none, errW_some] <;> rfl) | (simp [*, errW_none, errW_some] <;> rfl), by repeat (first | (with_reducible first | exact HB.out | apply below_alloc | apply pw_below_drewN | apply below_drew1 | refine below_set ?_ GE271.out) | exact HB.out)⟩
                    ·rw [if_neg c47] at H
                     have c47b0 : decide (t282 < 60) = false := decide_eq_false c47
                     clear c47
                     simp only [Option.some.injEq, Prod.mk.injEq] at H
                     obtain ⟨rfl, rfl, rfl⟩ := H
                     go_wp2_with (first | ((with_reducible refine gate_callee (f := 146) rfl ?_); refine goesL_ (some 80) rfl rfl Tryz.func146 (by kernel_rfl) rfl #[.string (a0_2.extract 0 8)] rfl (by (try simp only [List.map_toArray, List.map_cons, List.map_nil]); first | done | rfl | (simp only [List.length_drop, List.length_take]; rfl)) ?_; (with_reducible refine (spec_IDate.calls kj15 (a0_2.extract 0 8) t278 true _ A32.out).mono ?_); rintro e w' ⟨rfl, ⟨nd, rfl⟩⟩; refine ⟨_, rfl, ?_⟩) | ((with_reducible refine gate_callee (f := 147) rfl ?_); refine goesL_ (some 86) rfl rfl Tryz.func147 (by kernel_rfl) rfl #[.string (a0_2.extract 9 11)] rfl (by (try simp only [List.map_toArray, List.map_cons, List.map_nil]); first | done | rfl | (simp only [List.length_drop, List.length_take]; rfl)) ?_; (with_reducible refine (spec_inumber.calls kj15 (a0_2.extract 9 11) t280 true _ A35.out).mono ?_); rintro e w' ⟨rfl, ⟨nd, rfl⟩⟩; refine ⟨_, rfl, ?_⟩) | ((with_reducible refine gate_callee (f := 147) rfl ?_); refine goesL_ (some 92) rfl rfl Tryz.func147 (by kernel_rfl) rfl #[.string (a0_2.extract 11 13)] rfl (by (try simp only [List.map_toArray, List.map_cons, List.map_nil]); first | done | rfl | (simp only [List.length_drop, List.length_take]; rfl)) ?_; (with_reducible refine (spec_inumber.calls kj15 (a0_2.extract 11 13) t282 true _ A38.out).mono ?_); rintro e w' ⟨rfl, ⟨nd, rfl⟩⟩; refine ⟨_, rfl, ?_⟩) | ((with_reducible refine gate_callee (f := 147) rfl ?_); refine goesL_ (some 98) rfl rfl Tryz.func147 (by kernel_rfl) rfl #[.string (a0_2.extract 13 15)] rfl (by (try simp only [List.map_toArray, List.map_cons, List.map_nil]); first | done | rfl | (simp only [List.length_drop, List.length_take]; rfl)) ?_; (with_reducible refine (spec_inumber.calls kj15 (a0_2.extract 13 15) t284 true _ A41.out).mono ?_); rintro e w' ⟨rfl, ⟨nd, rfl⟩⟩; refine ⟨_, rfl, ?_⟩))
                     go_ret3
                     exact ⟨by first | rfl | (simp [errW_none, errW_some] <;> rfl) | (simp [*, errW_none, errW_some] <;> rfl), by repeat (first | (with_reducible first | exact HB.out | apply below_alloc | apply pw_below_drewN | apply below_drew1 | refine below_set ?_ GE271.out) | exact HB.out)⟩
                   ·rw [if_neg c46] at H
                    have c46b0 : decide (t280 < 24) = false := decide_eq_false c46
                    clear c46
                    simp only [Option.some.injEq, Prod.mk.injEq] at H
                    obtain ⟨rfl, rfl, rfl⟩ := H
                    go_wp2_with (first | ((with_reducible refine gate_callee (f := 146) rfl ?_); refine goesL_ (some 80) rfl rfl Tryz.func146 (by kernel_rfl) rfl #[.string (a0_2.extract 0 8)] rfl (by (try simp only [List.map_toArray, List.map_cons, List.map_nil]); first | done | rfl | (simp only [List.length_drop, List.length_take]; rfl)) ?_; (with_reducible refine (spec_IDate.calls kj15 (a0_2.extract 0 8) t278 true _ A32.out).mono ?_); rintro e w' ⟨rfl, ⟨nd, rfl⟩⟩; refine ⟨_, rfl, ?_⟩) | ((with_reducible refine gate_callee (f := 147) rfl ?_); refine goesL_ (some 86) rfl rfl Tryz.func147 (by kernel_rfl) rfl #[.string (a0_2.extract 9 11)] rfl (by (try simp only [List.map_toArray, List.map_cons, List.map_nil]); first | done | rfl | (simp only [List.length_drop, List.length_take]; rfl)) ?_; (with_reducible refine (spec_inumber.calls kj15 (a0_2.extract 9 11) t280 true _ A35.out).mono ?_); rintro e w' ⟨rfl, ⟨nd, rfl⟩⟩; refine ⟨_, rfl, ?_⟩) | ((with_reducible refine gate_callee (f := 147) rfl ?_); refine goesL_ (some 92) rfl rfl Tryz.func147 (by kernel_rfl) rfl #[.string (a0_2.extract 11 13)] rfl (by (try simp only [List.map_toArray, List.map_cons, List.map_nil]); first | done | rfl | (simp only [List.length_drop, List.length_take]; rfl)) ?_; (with_reducible refine (spec_inumber.calls kj15 (a0_2.extract 11 13) t282 true _ A38.out).mono ?_); rintro e w' ⟨rfl, ⟨nd, rfl⟩⟩; refine ⟨_, rfl, ?_⟩) | ((with_reducible refine gate_callee (f := 147) rfl ?_); refine goesL_ (some 98) rfl rfl Tryz.func147 (by kernel_rfl) rfl #[.string (a0_2.extract 13 15)] rfl (by (try simp only [List.map_toArray, List.map_cons, List.map_nil]); first | done | rfl | (simp only [List.length_drop, List.length_take]; rfl)) ?_; (with_reducible refine (spec_inumber.calls kj15 (a0_2.extract 13 15) t284 true _ A41.out).mono ?_); rintro e w' ⟨rfl, ⟨nd, rfl⟩⟩; refine ⟨_, rfl, ?_⟩))
                    go_ret3
                    exact ⟨by first | rfl | (simp [errW_none, errW_some] <;> rfl) | (simp [*, errW_none, errW_some] <;> rfl), by repeat (first | (with_reducible first | exact HB.out | apply below_alloc | apply pw_below_drewN | apply below_drew1 | refine below_set ?_ GE271.out) | exact HB.out)⟩
                  ·replace c45 := Bool.eq_false_iff.mpr c45
                   subst c45
                   have H1 : (some (wrap64 ((wrap64 (t278 * 86400)) + (wrap64 ((wrap64 ((wrap64 (3600 * t280)) + (wrap64 (60 * t282)))) + t284))), false, false)) = some (r1, r2, r3) := by rw [if_neg (show ¬ (false = true) by decide)] at H; exact H
                   clear H
                   have H := H1
                   clear H1
                   simp only [Option.some.injEq, Prod.mk.injEq] at H
                   obtain ⟨rfl, rfl, rfl⟩ := H
                   go_wp2_with (first | ((with_reducible refine gate_callee (f := 146) rfl ?_); refine goesL_ (some 80) rfl rfl Tryz.func146 (by kernel_rfl) rfl #[.string (a0_2.extract 0 8)] rfl (by (try simp only [List.map_toArray, List.map_cons, List.map_nil]); first | done | rfl | (simp only [List.length_drop, List.length_take]; rfl)) ?_; (with_reducible refine (spec_IDate.calls kj15 (a0_2.extract 0 8) t278 true _ A32.out).mono ?_); rintro e w' ⟨rfl, ⟨nd, rfl⟩⟩; refine ⟨_, rfl, ?_⟩) | ((with_reducible refine gate_callee (f := 147) rfl ?_); refine goesL_ (some 86) rfl rfl Tryz.func147 (by kernel_rfl) rfl #[.string (a0_2.extract 9 11)] rfl (by (try simp only [List.map_toArray, List.map_cons, List.map_nil]); first | done | rfl | (simp only [List.length_drop, List.length_take]; rfl)) ?_; (with_reducible refine (spec_inumber.calls kj15 (a0_2.extract 9 11) t280 true _ A35.out).mono ?_); rintro e w' ⟨rfl, ⟨nd, rfl⟩⟩; refine ⟨_, rfl, ?_⟩) | ((with_reducible refine gate_callee (f := 147) rfl ?_); refine goesL_ (some 92) rfl rfl Tryz.func147 (by kernel_rfl) rfl #[.string (a0_2.extract 11 13)] rfl (by (try simp only [List.map_toArray, List.map_cons, List.map_nil]); first | done | rfl | (simp only [List.length_drop, List.length_take]; rfl)) ?_; (with_reducible refine (spec_inumber.calls kj15 (a0_2.extract 11 13) t282 true _ A38.out).mono ?_); rintro e w' ⟨rfl, ⟨nd, rfl⟩⟩; refine ⟨_, rfl, ?_⟩) | ((with_reducible refine gate_callee (f := 147) rfl ?_); refine goesL_ (some 98) rfl rfl Tryz.func147 (by kernel_rfl) rfl #[.string (a0_2.extract 13 15)] rfl (by (try simp only [List.map_toArray, List.map_cons, List.map_nil]); first | done | rfl | (simp only [List.length_drop, List.length_take]; rfl)) ?_; (with_reducible refine (spec_inumber.calls kj15 (a0_2.extract 13 15) t284 false _ A41.out).mono ?_); rintro e w' ⟨rfl, ⟨nd, rfl⟩⟩; refine ⟨_, rfl, ?_⟩))
                   go_ret3
                   exact ⟨by first | rfl | (simp [errW_none, errW_some] <;> rfl) | (simp [*, errW_none, errW_some] <;> rfl), by repeat (first | (with_reducible first | exact HB.out | apply below_alloc | apply pw_below_drewN | apply below_drew1 | refine below_set ?_ GE271.out) | exact HB.out)⟩
                 ·replace c44 := Bool.eq_false_iff.mpr c44
                  subst c44
                  have H1 : (some (wrap64 ((wrap64 (t278 * 86400)) + (wrap64 ((wrap64 ((wrap64 (3600 * t280)) + (wrap64 (60 * t282)))) + t284))), false, false)) = some (r1, r2, r3) := by rw [if_neg (show ¬ (false = true) by decide)] at H; exact H
                  clear H
                  have H := H1
                  clear H1
                  simp only [Option.some.injEq, Prod.mk.injEq] at H
                  obtain ⟨rfl, rfl, rfl⟩ := H
                  go_wp2_with (first | ((with_reducible refine gate_callee (f := 146) rfl ?_); refine goesL_ (some 80) rfl rfl Tryz.func146 (by kernel_rfl) rfl #[.string (a0_2.extract 0 8)] rfl (by (try simp only [List.map_toArray, List.map_cons, List.map_nil]); first | done | rfl | (simp only [List.length_drop, List.length_take]; rfl)) ?_; (with_reducible refine (spec_IDate.calls kj15 (a0_2.extract 0 8) t278 true _ A32.out).mono ?_); rintro e w' ⟨rfl, ⟨nd, rfl⟩⟩; refine ⟨_, rfl, ?_⟩) | ((with_reducible refine gate_callee (f := 147) rfl ?_); refine goesL_ (some 86) rfl rfl Tryz.func147 (by kernel_rfl) rfl #[.string (a0_2.extract 9 11)] rfl (by (try simp only [List.map_toArray, List.map_cons, List.map_nil]); first | done | rfl | (simp only [List.length_drop, List.length_take]; rfl)) ?_; (with_reducible refine (spec_inumber.calls kj15 (a0_2.extract 9 11) t280 true _ A35.out).mono ?_); rintro e w' ⟨rfl, ⟨nd, rfl⟩⟩; refine ⟨_, rfl, ?_⟩) | ((with_reducible refine gate_callee (f := 147) rfl ?_); refine goesL_ (some 92) rfl rfl Tryz.func147 (by kernel_rfl) rfl #[.string (a0_2.extract 11 13)] rfl (by (try simp only [List.map_toArray, List.map_cons, List.map_nil]); first | done | rfl | (simp only [List.length_drop, List.length_take]; rfl)) ?_; (with_reducible refine (spec_inumber.calls kj15 (a0_2.extract 11 13) t282 false _ A38.out).mono ?_); rintro e w' ⟨rfl, ⟨nd, rfl⟩⟩; refine ⟨_, rfl, ?_⟩) | ((with_reducible refine gate_callee (f := 147) rfl ?_); refine goesL_ (some 98) rfl rfl Tryz.func147 (by kernel_rfl) rfl #[.string (a0_2.extract 13 15)] rfl (by (try simp only [List.map_toArray, List.map_cons, List.map_nil]); first | done | rfl | (simp only [List.length_drop, List.length_take]; rfl)) ?_; (with_reducible refine (spec_inumber.calls kj15 (a0_2.extract 13 15) t284 t285 _ A41.out).mono ?_); rintro e w' ⟨rfl, ⟨nd, rfl⟩⟩; refine ⟨_, rfl, ?_⟩))
                  go_ret3
                  exact ⟨by first | rfl | (simp [errW_none, errW_some] <;> rfl) | (simp [*, errW_none, errW_some] <;> rfl), by repeat (first | (with_reducible first | exact HB.out | apply below_alloc | apply pw_below_drewN | apply below_drew1 | refine below_set ?_ GE271.out) | exact HB.out)⟩
                ·replace c43 := Bool.eq_false_iff.mpr c43
                 subst c43
                 have H1 : (some (wrap64 ((wrap64 (t278 * 86400)) + (wrap64 ((wrap64 ((wrap64 (3600 * t280)) + (wrap64 (60 * t282)))) + t284))), false, false)) = some (r1, r2, r3) := by rw [if_neg (show ¬ (false = true) by decide)] at H; exact H
                 clear H
                 have H := H1
                 clear H1
                 simp only [Option.some.injEq, Prod.mk.injEq] at H
                 obtain ⟨rfl, rfl, rfl⟩ := H
                 go_wp2_with (first | ((with_reducible refine gate_callee (f := 146) rfl ?_); refine goesL_ (some 80) rfl rfl Tryz.func146 (by kernel_rfl) rfl #[.string (a0_2.extract 0 8)] rfl (by (try simp only [List.map_toArray, List.map_cons, List.map_nil]); first | done | rfl | (simp only [List.length_drop, List.length_take]; rfl)) ?_; (with_reducible refine (spec_IDate.calls kj15 (a0_2.extract 0 8) t278 true _ A32.out).mono ?_); rintro e w' ⟨rfl, ⟨nd, rfl⟩⟩; refine ⟨_, rfl, ?_⟩) | ((with_reducible refine gate_callee (f := 147) rfl ?_); refine goesL_ (some 86) rfl rfl Tryz.func147 (by kernel_rfl) rfl #[.string (a0_2.extract 9 11)] rfl (by (try simp only [List.map_toArray, List.map_cons, List.map_nil]); first | done | rfl | (simp only [List.length_drop, List.length_take]; rfl)) ?_; (with_reducible refine (spec_inumber.calls kj15 (a0_2.extract 9 11) t280 false _ A35.out).mono ?_); rintro e w' ⟨rfl, ⟨nd, rfl⟩⟩; refine ⟨_, rfl, ?_⟩) | ((with_reducible refine gate_callee (f := 147) rfl ?_); refine goesL_ (some 92) rfl rfl Tryz.func147 (by kernel_rfl) rfl #[.string (a0_2.extract 11 13)] rfl (by (try simp only [List.map_toArray, List.map_cons, List.map_nil]); first | done | rfl | (simp only [List.length_drop, List.length_take]; rfl)) ?_; (with_reducible refine (spec_inumber.calls kj15 (a0_2.extract 11 13) t282 t283 _ A38.out).mono ?_); rintro e w' ⟨rfl, ⟨nd, rfl⟩⟩; refine ⟨_, rfl, ?_⟩) | ((with_reducible refine gate_callee (f := 147) rfl ?_); refine goesL_ (some 98) rfl rfl Tryz.func147 (by kernel_rfl) rfl #[.string (a0_2.extract 13 15)] rfl (by (try simp only [List.map_toArray, List.map_cons, List.map_nil]); first | done | rfl | (simp only [List.length_drop, List.length_take]; rfl)) ?_; (with_reducible refine (spec_inumber.calls kj15 (a0_2.extract 13 15) t284 t285 _ A41.out).mono ?_); rintro e w' ⟨rfl, ⟨nd, rfl⟩⟩; refine ⟨_, rfl, ?_⟩))
                 go_ret3
                 exact ⟨by first | rfl | (simp [errW_none, errW_some] <;> rfl) | (simp [*, errW_none, errW_some] <;> rfl), by repeat (first | (with_reducible first | exact HB.out | apply below_alloc | apply pw_below_drewN | apply below_drew1 | refine below_set ?_ GE271.out) | exact HB.out)⟩
               ·replace c42 := Bool.eq_false_iff.mpr c42
                subst c42
                have H1 : (some (wrap64 ((wrap64 (t278 * 86400)) + (wrap64 ((wrap64 ((wrap64 (3600 * t280)) + (wrap64 (60 * t282)))) + t284))), false, false)) = some (r1, r2, r3) := by rw [if_neg (show ¬ (false = true) by decide)] at H; exact H
                clear H
                have H := H1
                clear H1
                simp only [Option.some.injEq, Prod.mk.injEq] at H
                obtain ⟨rfl, rfl, rfl⟩ := H
                go_wp2_with (first | ((with_reducible refine gate_callee (f := 146) rfl ?_); refine goesL_ (some 80) rfl rfl Tryz.func146 (by kernel_rfl) rfl #[.string (a0_2.extract 0 8)] rfl (by (try simp only [List.map_toArray, List.map_cons, List.map_nil]); first | done | rfl | (simp only [List.length_drop, List.length_take]; rfl)) ?_; (with_reducible refine (spec_IDate.calls kj15 (a0_2.extract 0 8) t278 false _ A32.out).mono ?_); rintro e w' ⟨rfl, ⟨nd, rfl⟩⟩; refine ⟨_, rfl, ?_⟩) | ((with_reducible refine gate_callee (f := 147) rfl ?_); refine goesL_ (some 86) rfl rfl Tryz.func147 (by kernel_rfl) rfl #[.string (a0_2.extract 9 11)] rfl (by (try simp only [List.map_toArray, List.map_cons, List.map_nil]); first | done | rfl | (simp only [List.length_drop, List.length_take]; rfl)) ?_; (with_reducible refine (spec_inumber.calls kj15 (a0_2.extract 9 11) t280 t281 _ A35.out).mono ?_); rintro e w' ⟨rfl, ⟨nd, rfl⟩⟩; refine ⟨_, rfl, ?_⟩) | ((with_reducible refine gate_callee (f := 147) rfl ?_); refine goesL_ (some 92) rfl rfl Tryz.func147 (by kernel_rfl) rfl #[.string (a0_2.extract 11 13)] rfl (by (try simp only [List.map_toArray, List.map_cons, List.map_nil]); first | done | rfl | (simp only [List.length_drop, List.length_take]; rfl)) ?_; (with_reducible refine (spec_inumber.calls kj15 (a0_2.extract 11 13) t282 t283 _ A38.out).mono ?_); rintro e w' ⟨rfl, ⟨nd, rfl⟩⟩; refine ⟨_, rfl, ?_⟩) | ((with_reducible refine gate_callee (f := 147) rfl ?_); refine goesL_ (some 98) rfl rfl Tryz.func147 (by kernel_rfl) rfl #[.string (a0_2.extract 13 15)] rfl (by (try simp only [List.map_toArray, List.map_cons, List.map_nil]); first | done | rfl | (simp only [List.length_drop, List.length_take]; rfl)) ?_; (with_reducible refine (spec_inumber.calls kj15 (a0_2.extract 13 15) t284 t285 _ A41.out).mono ?_); rintro e w' ⟨rfl, ⟨nd, rfl⟩⟩; refine ⟨_, rfl, ?_⟩))
                go_ret3
                exact ⟨by first | rfl | (simp [errW_none, errW_some] <;> rfl) | (simp [*, errW_none, errW_some] <;> rfl), by repeat (first | (with_reducible first | exact HB.out | apply below_alloc | apply pw_below_drewN | apply below_drew1 | refine below_set ?_ GE271.out) | exact HB.out)⟩
              ·rw [if_neg c40] at H
               exact absurd H (by simp)
             ·rw [if_neg c39] at H
              exact absurd H (by simp)
            ·rw [if_neg c37] at H
             exact absurd H (by simp)
           ·rw [if_neg c36] at H
            exact absurd H (by simp)
          ·rw [if_neg c34] at H
           exact absurd H (by simp)
         ·rw [if_neg c33] at H
          exact absurd H (by simp)
        ·rw [if_neg c31] at H
         exact absurd H (by simp)
       ·rw [if_neg c30] at H
        exact absurd H (by simp)
end Go.Proofs.YtcllaplddebilaaGreatDoor.PFnKMatch

/- laws.FnKMatch: a part of the proof: SpA. -/
import Derived.Test.YtcllaplddebilaaGreatDoorK03
set_option maxRecDepth 1000000
set_option maxHeartbeats 64000000
set_option linter.unusedVariables false
set_option linter.unusedSimpArgs false
namespace Go.Proofs.YtcllaplddebilaaGreatDoor.PFnKMatch
open Go.RowKit Go.Proofs.YtcllaplddebilaaGreatDoorW.PrintWords Go.Proofs.YtcllaplddebilaaGreatDoorW.PrintLast Go.Proofs.YtcllaplddebilaaGreatDoorW.PrintMore
attribute [local go_sem] max2_int min2_int max_two min_two max_three min_three max_four min_four
theorem SpA_ne (l : List UInt8) : (l != []) = !l.isEmpty := by cases l <;> rfl
attribute [local simp] SpA_ne
def spec_IDays.f (a0 : Int) (a1 : Int) (a2 : Int) : Option (Int) := if a1 ≤ 2 then (if (wrap64 (a0 - 1)) < 0 then (some (wrap64 ((wrap64 ((wrap64 ((wrap64 ((wrap64 ((wrap64 ((wrap64 (Int.tdiv (wrap64 ((wrap64 (a0 - 1)) - 399)) 400)) * 146097)) + (wrap64 ((wrap64 ((wrap64 (a0 - 1)) - (wrap64 (400 * (wrap64 (Int.tdiv (wrap64 ((wrap64 (a0 - 1)) - 399)) 400)))))) * 365)))) + (wrap64 (Int.tdiv (wrap64 ((wrap64 (a0 - 1)) - (wrap64 (400 * (wrap64 (Int.tdiv (wrap64 ((wrap64 (a0 - 1)) - 399)) 400)))))) 4)))) - (wrap64 (Int.tdiv (wrap64 ((wrap64 (a0 - 1)) - (wrap64 (400 * (wrap64 (Int.tdiv (wrap64 ((wrap64 (a0 - 1)) - 399)) 400)))))) 100)))) + (wrap64 ((wrap64 ((wrap64 (Int.tdiv (wrap64 ((wrap64 (153 * (wrap64 ((wrap64 (a1 + 12)) - 3)))) + 2)) 5)) + a2)) - 1)))) - 719468))) else (some (wrap64 ((wrap64 ((wrap64 ((wrap64 ((wrap64 ((wrap64 ((wrap64 (Int.tdiv (wrap64 (a0 - 1)) 400)) * 146097)) + (wrap64 ((wrap64 ((wrap64 (a0 - 1)) - (wrap64 (400 * (wrap64 (Int.tdiv (wrap64 (a0 - 1)) 400)))))) * 365)))) + (wrap64 (Int.tdiv (wrap64 ((wrap64 (a0 - 1)) - (wrap64 (400 * (wrap64 (Int.tdiv (wrap64 (a0 - 1)) 400)))))) 4)))) - (wrap64 (Int.tdiv (wrap64 ((wrap64 (a0 - 1)) - (wrap64 (400 * (wrap64 (Int.tdiv (wrap64 (a0 - 1)) 400)))))) 100)))) + (wrap64 ((wrap64 ((wrap64 (Int.tdiv (wrap64 ((wrap64 (153 * (wrap64 ((wrap64 (a1 + 12)) - 3)))) + 2)) 5)) + a2)) - 1)))) - 719468)))) else (if a0 < 0 then (some (wrap64 ((wrap64 ((wrap64 ((wrap64 ((wrap64 ((wrap64 ((wrap64 (Int.tdiv (wrap64 (a0 - 399)) 400)) * 146097)) + (wrap64 ((wrap64 (a0 - (wrap64 (400 * (wrap64 (Int.tdiv (wrap64 (a0 - 399)) 400)))))) * 365)))) + (wrap64 (Int.tdiv (wrap64 (a0 - (wrap64 (400 * (wrap64 (Int.tdiv (wrap64 (a0 - 399)) 400)))))) 4)))) - (wrap64 (Int.tdiv (wrap64 (a0 - (wrap64 (400 * (wrap64 (Int.tdiv (wrap64 (a0 - 399)) 400)))))) 100)))) + (wrap64 ((wrap64 ((wrap64 (Int.tdiv (wrap64 ((wrap64 (153 * (wrap64 (a1 - 3)))) + 2)) 5)) + a2)) - 1)))) - 719468))) else (some (wrap64 ((wrap64 ((wrap64 ((wrap64 ((wrap64 ((wrap64 ((wrap64 (Int.tdiv a0 400)) * 146097)) + (wrap64 ((wrap64 (a0 - (wrap64 (400 * (wrap64 (Int.tdiv a0 400)))))) * 365)))) + (wrap64 (Int.tdiv (wrap64 (a0 - (wrap64 (400 * (wrap64 (Int.tdiv a0 400)))))) 4)))) - (wrap64 (Int.tdiv (wrap64 (a0 - (wrap64 (400 * (wrap64 (Int.tdiv a0 400)))))) 100)))) + (wrap64 ((wrap64 ((wrap64 (Int.tdiv (wrap64 ((wrap64 (153 * (wrap64 (a1 - 3)))) + 2)) 5)) + a2)) - 1)))) - 719468))))
theorem spec_IDays.calls (a0 : Int) (a1 : Int) (a2 : Int) (r : Int) (w : World) (h : spec_IDays.f a0 a1 a2 = some r) :
  Calls Tryz.prog 19 #[.int .i64 a0, .int .i64 a1, .int .i64 a2] w fun e w' => e = .returned (.int .i64 r) ∧ Drawn0 w w' := by
 have H : (if a1 ≤ 2 then (if (wrap64 (a0 - 1)) < 0 then (some (wrap64 ((wrap64 ((wrap64 ((wrap64 ((wrap64 ((wrap64 ((wrap64 (Int.tdiv (wrap64 ((wrap64 (a0 - 1)) - 399)) 400)) * 146097)) + (wrap64 ((wrap64 ((wrap64 (a0 - 1)) - (wrap64 (400 * (wrap64 (Int.tdiv (wrap64 ((wrap64 (a0 - 1)) - 399)) 400)))))) * 365)))) + (wrap64 (Int.tdiv (wrap64 ((wrap64 (a0 - 1)) - (wrap64 (400 * (wrap64 (Int.tdiv (wrap64 ((wrap64 (a0 - 1)) - 399)) 400)))))) 4)))) - (wrap64 (Int.tdiv (wrap64 ((wrap64 (a0 - 1)) - (wrap64 (400 * (wrap64 (Int.tdiv (wrap64 ((wrap64 (a0 - 1)) - 399)) 400)))))) 100)))) + (wrap64 ((wrap64 ((wrap64 (Int.tdiv (wrap64 ((wrap64 (153 * (wrap64 ((wrap64 (a1 + 12)) - 3)))) + 2)) 5)) + a2)) - 1)))) - 719468))) else (some (wrap64 ((wrap64 ((wrap64 ((wrap64 ((wrap64 ((wrap64 ((wrap64 (Int.tdiv (wrap64 (a0 - 1)) 400)) * 146097)) + (wrap64 ((wrap64 ((wrap64 (a0 - 1)) - (wrap64 (400 * (wrap64 (Int.tdiv (wrap64 (a0 - 1)) 400)))))) * 365)))) + (wrap64 (Int.tdiv (wrap64 ((wrap64 (a0 - 1)) - (wrap64 (400 * (wrap64 (Int.tdiv (wrap64 (a0 - 1)) 400)))))) 4)))) - (wrap64 (Int.tdiv (wrap64 ((wrap64 (a0 - 1)) - (wrap64 (400 * (wrap64 (Int.tdiv (wrap64 (a0 - 1)) 400)))))) 100)))) + (wrap64 ((wrap64 ((wrap64 (Int.tdiv (wrap64 ((wrap64 (153 * (wrap64 ((wrap64 (a1 + 12)) - 3)))) + 2)) 5)) + a2)) - 1)))) - 719468)))) else (if a0 < 0 then (some (wrap64 ((wrap64 ((wrap64 ((wrap64 ((wrap64 ((wrap64 ((wrap64 (Int.tdiv (wrap64 (a0 - 399)) 400)) * 146097)) + (wrap64 ((wrap64 (a0 - (wrap64 (400 * (wrap64 (Int.tdiv (wrap64 (a0 - 399)) 400)))))) * 365)))) + (wrap64 (Int.tdiv (wrap64 (a0 - (wrap64 (400 * (wrap64 (Int.tdiv (wrap64 (a0 - 399)) 400)))))) 4)))) - (wrap64 (Int.tdiv (wrap64 (a0 - (wrap64 (400 * (wrap64 (Int.tdiv (wrap64 (a0 - 399)) 400)))))) 100)))) + (wrap64 ((wrap64 ((wrap64 (Int.tdiv (wrap64 ((wrap64 (153 * (wrap64 (a1 - 3)))) + 2)) 5)) + a2)) - 1)))) - 719468))) else (some (wrap64 ((wrap64 ((wrap64 ((wrap64 ((wrap64 ((wrap64 ((wrap64 (Int.tdiv a0 400)) * 146097)) + (wrap64 ((wrap64 (a0 - (wrap64 (400 * (wrap64 (Int.tdiv a0 400)))))) * 365)))) + (wrap64 (Int.tdiv (wrap64 (a0 - (wrap64 (400 * (wrap64 (Int.tdiv a0 400)))))) 4)))) - (wrap64 (Int.tdiv (wrap64 (a0 - (wrap64 (400 * (wrap64 (Int.tdiv a0 400)))))) 100)))) + (wrap64 ((wrap64 ((wrap64 (Int.tdiv (wrap64 ((wrap64 (153 * (wrap64 (a1 - 3)))) + 2)) 5)) + a2)) - 1)))) - 719468))))) = some r := h
 clear h
 by_cases c4 : a1 ≤ 2
 ·rw [if_pos c4] at H
  have c4b0 : decide (a1 ≤ 2) = true := decide_eq_true c4
  clear c4
  by_cases c5 : (wrap64 (a0 - 1)) < 0
  ·rw [if_pos c5] at H
   have c5b0 : decide ((wrap64 (a0 - 1)) < 0) = true := decide_eq_true c5
   clear c5
   obtain rfl := Option.some.inj H
   go_enter Tryz.func19, Tryz.ntmps19
   go_wp2
   go_ret
   exact ⟨by first | rfl | (simp; done) | (simp [*]; done), by repeat (first | exact Drawn0.refl _ | apply Drawn0.step)⟩
  ·rw [if_neg c5] at H
   have c5b0 : decide ((wrap64 (a0 - 1)) < 0) = false := decide_eq_false c5
   clear c5
   obtain rfl := Option.some.inj H
   go_enter Tryz.func19, Tryz.ntmps19
   go_wp2
   go_ret
   exact ⟨by first | rfl | (simp; done) | (simp [*]; done), by repeat (first | exact Drawn0.refl _ | apply Drawn0.step)⟩
 ·rw [if_neg c4] at H
  have c4b0 : decide (a1 ≤ 2) = false := decide_eq_false c4
  clear c4
  by_cases c6 : a0 < 0
  ·rw [if_pos c6] at H
   have c6b0 : decide (a0 < 0) = true := decide_eq_true c6
   clear c6
   obtain rfl := Option.some.inj H
   go_enter Tryz.func19, Tryz.ntmps19
   go_wp2
   go_ret
   exact ⟨by first | rfl | (simp; done) | (simp [*]; done), by repeat (first | exact Drawn0.refl _ | apply Drawn0.step)⟩
  ·rw [if_neg c6] at H
   have c6b0 : decide (a0 < 0) = false := decide_eq_false c6
   clear c6
   obtain rfl := Option.some.inj H
   go_enter Tryz.func19, Tryz.ntmps19
   go_wp2
   go_ret
   exact ⟨by first | rfl | (simp; done) | (simp [*]; done), by repeat (first | exact Drawn0.refl _ | apply Drawn0.step)⟩
def spec_ILength.j0 : Nat → Int → Int → Bool → Option (Int)
 | 0, _, _, _ => none
 | k + 1, x0, x5, x6 => if x6 = true then (some 30) else (if x5 = 2 then (if (Int.tmod x0 4) = 0 then (if (Int.tmod x0 100) = 0 then (if (Int.tmod x0 400) = 0 then (some 29) else (some 28)) else (some 29)) else (some 28)) else (some 31))
def spec_ILength.f (k : Nat) (a0 : Int) (a1 : Int) : Option (Int) := if a1 = 4 then (spec_ILength.j0 k a0 a1 (a1 == 4)) else (if a1 = 6 then (spec_ILength.j0 k a0 a1 (a1 == 6)) else (if a1 = 9 then (spec_ILength.j0 k a0 a1 (a1 == 9)) else (spec_ILength.j0 k a0 a1 (a1 == 11))))
theorem spec_ILength.calls (k : Nat) (a0 : Int) (a1 : Int) (r : Int) (w : World) (h : spec_ILength.f k a0 a1 = some r) :
  Calls Tryz.prog 20 #[.int .i64 a0, .int .i64 a1] w fun e w' => e = .returned (.int .i64 r) ∧ Drawn0 w w' := by
 have H : (if a1 = 4 then (spec_ILength.j0 k a0 a1 (a1 == 4)) else (if a1 = 6 then (spec_ILength.j0 k a0 a1 (a1 == 6)) else (if a1 = 9 then (spec_ILength.j0 k a0 a1 (a1 == 9)) else (spec_ILength.j0 k a0 a1 (a1 == 11))))) = some r := h
 clear h
 have HC3 := Aside0.mk H
 clear H
 go_enter Tryz.func20, Tryz.ntmps20
 go_upto_if 6 with (fail)
 go_cut [6] (fun v6 wc => ∃ (kq : Nat) (x6_2 : Bool), v6 = .bool x6_2 ∧ Aside0 (spec_ILength.j0 kq a0 a1 x6_2 = some r) ∧ Aside0 (kq ≤ k) ∧ Drawn0 w wc)
 case first =>
  have H := HC3.out
  clear HC3
  by_cases c4 : a1 = 4
  ·rw [if_pos c4] at H
   have c4b0 : (a1 == 4) = true := beq_iff_eq.mpr c4
   have c4b1 : (a1 != 4) = false := bne_eq_false_iff_eq.mpr c4
   clear c4
   (first | rw [c4b0] | (simp only [i64_w, i32_w]; rw [c4b0]) | skip)
   have H' := Aside0.mk H
   clear H
   go_wp2
   go_meet
   case rel => exact ⟨_, ((a1 == 4)), (by first | rfl | (simp; done) | (simp [*]; done)), H', ⟨by first | omega | exact Nat.le_refl _⟩, by repeat (first | exact Drawn0.refl _ | apply Drawn0.step)⟩
  ·rw [if_neg c4] at H
   have c4b0 : (a1 == 4) = false := beq_eq_false_iff_ne.mpr c4
   have c4b1 : (a1 != 4) = true := bne_iff_ne.mpr c4
   (first | rw [c4b0] | (simp only [i64_w, i32_w]; rw [c4b0]) | skip)
   by_cases c5 : a1 = 6
   ·rw [if_pos c5] at H
    have c5b0 : (a1 == 6) = true := beq_iff_eq.mpr c5
    have c5b1 : (a1 != 6) = false := bne_eq_false_iff_eq.mpr c5
    clear c5
    have H' := Aside0.mk H
    clear H
    go_wp2
    go_meet
    case rel => exact ⟨_, ((a1 == 6)), (by first | rfl | (simp; done) | (simp [*]; done)), H', ⟨by first | omega | exact Nat.le_refl _⟩, by repeat (first | exact Drawn0.refl _ | apply Drawn0.step)⟩
   ·rw [if_neg c5] at H
    have c5b0 : (a1 == 6) = false := beq_eq_false_iff_ne.mpr c5
    have c5b1 : (a1 != 6) = true := bne_iff_ne.mpr c5
    by_cases c6 : a1 = 9
    ·rw [if_pos c6] at H
     have c6b0 : (a1 == 9) = true := beq_iff_eq.mpr c6
     have c6b1 : (a1 != 9) = false := bne_eq_false_iff_eq.mpr c6
     clear c6
     have H' := Aside0.mk H
     clear H
     go_wp2
     go_meet
     case rel => exact ⟨_, ((a1 == 9)), (by first | rfl | (simp; done) | (simp [*]; done)), H', ⟨by first | omega | exact Nat.le_refl _⟩, by repeat (first | exact Drawn0.refl _ | apply Drawn0.step)⟩
    ·rw [if_neg c6] at H
     have c6b0 : (a1 == 9) = false := beq_eq_false_iff_ne.mpr c6
     have c6b1 : (a1 != 9) = true := bne_iff_ne.mpr c6
     have H' := Aside0.mk H
     clear H
     go_wp2
     go_meet
     case rel => exact ⟨_, ((a1 == 11)), (by first | rfl | (simp; done) | (simp [*]; done)), H', ⟨by first | omega | exact Nat.le_refl _⟩, by repeat (first | exact Drawn0.refl _ | apply Drawn0.step)⟩
 case rest =>
  clear HC3
  try clear c2
  try clear p2
  try clear c4
  try clear c4b0
  try clear c4b1
  try clear c5
  try clear c5b0
  try clear c5b1
  try clear c6
  try clear c6b0
  try clear c6b1
  obtain ⟨kq, x6_2, rfl, HA, HJ2, ⟨mc2, rfl⟩⟩ := hcut
  cases kq with
  | zero => exact absurd HA.out (by simp [spec_ILength.j0])
  | succ kj2 =>
   have H := HA.out
   clear HA
   simp only [spec_ILength.j0] at H
   by_cases c7 : x6_2 = true
   ·subst c7
    have H1 : (some 30) = some r := by rw [if_pos rfl] at H; exact H
    clear H
    have H := H1
    clear H1
    obtain rfl := Option.some.inj H
    go_wp2
    go_ret
    exact ⟨by first | rfl | (simp; done) | (simp [*]; done), by repeat (first | exact Drawn0.refl _ | apply Drawn0.step)⟩
   ·replace c7 := Bool.eq_false_iff.mpr c7
    subst c7
    have H1 : (if a1 = 2 then (if (Int.tmod a0 4) = 0 then (if (Int.tmod a0 100) = 0 then (if (Int.tmod a0 400) = 0 then (some 29) else (some 28)) else (some 29)) else (some 28)) else (some 31)) = some r := by rw [if_neg (show ¬ (false = true) by decide)] at H; exact H
    clear H
    have H := H1
    clear H1
    by_cases c8 : a1 = 2
    ·rw [if_pos c8] at H
     have c8b0 : (a1 == 2) = true := beq_iff_eq.mpr c8
     have c8b1 : (a1 != 2) = false := bne_eq_false_iff_eq.mpr c8
     clear c8
     by_cases c9 : (Int.tmod a0 4) = 0
     ·rw [if_pos c9] at H
      have c9b0 : ((Int.tmod a0 4) == 0) = true := beq_iff_eq.mpr c9
      have c9b1 : ((Int.tmod a0 4) != 0) = false := bne_eq_false_iff_eq.mpr c9
      clear c9
      by_cases c10 : (Int.tmod a0 100) = 0
      ·rw [if_pos c10] at H
       have c10b0 : ((Int.tmod a0 100) == 0) = true := beq_iff_eq.mpr c10
       have c10b1 : ((Int.tmod a0 100) != 0) = false := bne_eq_false_iff_eq.mpr c10
       clear c10
       by_cases c11 : (Int.tmod a0 400) = 0
       ·rw [if_pos c11] at H
        have c11b0 : ((Int.tmod a0 400) == 0) = true := beq_iff_eq.mpr c11
        have c11b1 : ((Int.tmod a0 400) != 0) = false := bne_eq_false_iff_eq.mpr c11
        clear c11
        obtain rfl := Option.some.inj H
        go_wp2
        go_ret
        exact ⟨by first | rfl | (simp; done) | (simp [*]; done), by repeat (first | exact Drawn0.refl _ | apply Drawn0.step)⟩
       ·rw [if_neg c11] at H
        have c11b0 : ((Int.tmod a0 400) == 0) = false := beq_eq_false_iff_ne.mpr c11
        have c11b1 : ((Int.tmod a0 400) != 0) = true := bne_iff_ne.mpr c11
        obtain rfl := Option.some.inj H
        go_wp2
        go_ret
        exact ⟨by first | rfl | (simp; done) | (simp [*]; done), by repeat (first | exact Drawn0.refl _ | apply Drawn0.step)⟩
      ·rw [if_neg c10] at H
       have c10b0 : ((Int.tmod a0 100) == 0) = false := beq_eq_false_iff_ne.mpr c10
       have c10b1 : ((Int.tmod a0 100) != 0) = true := bne_iff_ne.mpr c10
       obtain rfl := Option.some.inj H
       go_wp2
       go_ret
       exact ⟨by first | rfl | (simp; done) | (simp [*]; done), by repeat (first | exact Drawn0.refl _ | apply Drawn0.step)⟩
     ·rw [if_neg c9] at H
      have c9b0 : ((Int.tmod a0 4) == 0) = false := beq_eq_false_iff_ne.mpr c9
      have c9b1 : ((Int.tmod a0 4) != 0) = true := bne_iff_ne.mpr c9
      obtain rfl := Option.some.inj H
      go_wp2
      go_ret
      exact ⟨by first | rfl | (simp; done) | (simp [*]; done), by repeat (first | exact Drawn0.refl _ | apply Drawn0.step)⟩
    ·rw [if_neg c8] at H
     have c8b0 : (a1 == 2) = false := beq_eq_false_iff_ne.mpr c8
     have c8b1 : (a1 != 2) = true := bne_iff_ne.mpr c8
     obtain rfl := Option.some.inj H
     go_wp2
     go_ret
     exact ⟨by first | rfl | (simp; done) | (simp [*]; done), by repeat (first | exact Drawn0.refl _ | apply Drawn0.step)⟩
def spec_inumber.l0 : Nat → ByteArray → Int → Int → Option (Int × Bool)
 | 0, _, _, _ => none
 | k + 1, x0, x4, x5 => if x5 < (x0.size : Int) then (if 0 ≤ x5 then (if (bt x0 x5) < 48 then (some (0, false)) else (if (bt x0 x5) > 57 then (some (0, false)) else (spec_inumber.l0 k x0 (wrap64 ((wrap64 (10 * x4)) + (((bt x0 x5) - 48) % 256))) (wrap64 (x5 + 1))))) else (none)) else (some (x4, (x0.toList != ([] : List UInt8))))
def spec_inumber.f (k : Nat) (a0 : ByteArray) : Option (Int × Bool) := spec_inumber.l0 k a0 0 0
theorem spec_inumber.calls (k : Nat) (a0 : ByteArray) (r1 : Int) (r2 : Bool) (w : World) (h : spec_inumber.f k a0 = some (r1, r2)) :
  Calls Tryz.prog 147 #[.string a0] w fun e w' => e = .returned (.tuple #[.int .i64 r1, .bool r2]) ∧ Drawn0 w w' := by
 have H : (spec_inumber.l0 k a0 0 0) = some (r1, r2) := h
 clear h
 have H' := Aside0.mk H
 clear H
 go_enter Tryz.func147, Tryz.ntmps147
 go_wp2
 go_loopg [4, 5] k (fun kq v4 v5 w' => ∃ (x4_1 : Int) (x5_1 : Int), v4 = .int .i64 x4_1 ∧ v5 = .int .i64 x5_1 ∧ Aside0 (spec_inumber.l0 kq a0 x4_1 x5_1 = some (r1, r2)) ∧ Aside0 (kq ≤ k) ∧ Drawn0 w w')
 case atStart => exact ⟨(0), (0), (by first | rfl | (simp; done) | (simp [*]; done)), (by first | rfl | (simp; done) | (simp [*]; done)), H', ⟨Nat.le_refl _⟩, by repeat (first | exact Drawn0.refl _ | apply Drawn0.step)⟩
 case round =>
  clear H'
  try clear c1
  obtain ⟨x4_1, x5_1, rfl, rfl, HA, HK1, ⟨m1, rfl⟩⟩ := hrel
  cases gk with
  | zero => exact absurd HA.out (by simp [spec_inumber.l0])
  | succ k1 =>
   have H := HA.out
   clear HA
   simp only [spec_inumber.l0] at H
   by_cases c2 : x5_1 < (a0.size : Int)
   ·rw [if_pos c2] at H
    have c2b0 : decide (x5_1 < (a0.size : Int)) = true := decide_eq_true c2
    clear c2
    by_cases c3 : 0 ≤ x5_1
    ·rw [if_pos c3] at H
     have c3b0 : decide (0 ≤ x5_1) = true := decide_eq_true c3
     clear c3
     by_cases c5 : (bt a0 x5_1) < 48
     ·rw [if_pos c5] at H
      have c5b0 : decide ((bt a0 x5_1) < 48) = true := decide_eq_true c5
      clear c5
      simp only [Option.some.injEq, Prod.mk.injEq] at H
      obtain ⟨rfl, rfl⟩ := H
      have p4 : 0 ≤ (x5_1 : Int) := of_decide_eq_true (by first | (with_reducible assumption) | assumption)
      have q4 : x5_1 < (a0.size : Int) := of_decide_eq_true (by first | (with_reducible assumption) | assumption)
      have hx4 := bt_at a0 x5_1
      replace p4 := eq_true p4
      replace q4 := eq_true q4
      go_wp2
      go_ret2
      exact ⟨by first | rfl | (simp; done) | (simp [*]; done), by repeat (first | exact Drawn0.refl _ | apply Drawn0.step)⟩
     ·rw [if_neg c5] at H
      have c5b0 : decide ((bt a0 x5_1) < 48) = false := decide_eq_false c5
      clear c5
      by_cases c7 : (bt a0 x5_1) > 57
      ·rw [if_pos c7] at H
       have c7b0 : decide (57 < (bt a0 x5_1)) = true := decide_eq_true c7
       clear c7
       simp only [Option.some.injEq, Prod.mk.injEq] at H
       obtain ⟨rfl, rfl⟩ := H
       have p4 : 0 ≤ (x5_1 : Int) := of_decide_eq_true (by first | (with_reducible assumption) | assumption)
       have q4 : x5_1 < (a0.size : Int) := of_decide_eq_true (by first | (with_reducible assumption) | assumption)
       have hx4 := bt_at a0 x5_1
       replace p4 := eq_true p4
       replace q4 := eq_true q4
       have p6 : 0 ≤ (x5_1 : Int) := of_decide_eq_true (by first | (with_reducible assumption) | assumption)
       have q6 : x5_1 < (a0.size : Int) := of_decide_eq_true (by first | (with_reducible assumption) | assumption)
       have hx6 := bt_at a0 x5_1
       replace p6 := eq_true p6
       replace q6 := eq_true q6
       go_wp2
       go_ret2
       exact ⟨by first | rfl | (simp; done) | (simp [*]; done), by repeat (first | exact Drawn0.refl _ | apply Drawn0.step)⟩
      ·rw [if_neg c7] at H
       have c7b0 : decide (57 < (bt a0 x5_1)) = false := decide_eq_false c7
       clear c7
       have H' := Aside0.mk H
       clear H
       have p4 : 0 ≤ (x5_1 : Int) := of_decide_eq_true (by first | (with_reducible assumption) | assumption)
       have q4 : x5_1 < (a0.size : Int) := of_decide_eq_true (by first | (with_reducible assumption) | assumption)
       have hx4 := bt_at a0 x5_1
       replace p4 := eq_true p4
       replace q4 := eq_true q4
       have p6 : 0 ≤ (x5_1 : Int) := of_decide_eq_true (by first | (with_reducible assumption) | assumption)
       have q6 : x5_1 < (a0.size : Int) := of_decide_eq_true (by first | (with_reducible assumption) | assumption)
       have hx6 := bt_at a0 x5_1
       replace p6 := eq_true p6
       replace q6 := eq_true q6
       have p8 : 0 ≤ (x5_1 : Int) := of_decide_eq_true (by first | (with_reducible assumption) | assumption)
       have q8 : x5_1 < (a0.size : Int) := of_decide_eq_true (by first | (with_reducible assumption) | assumption)
       have hx8 := bt_at a0 x5_1
       replace p8 := eq_true p8
       replace q8 := eq_true q8
       go_wp2
       go_roundg k1
       case measure => have := HK1.out; omega
       case rel => exact ⟨(wrap64 ((wrap64 (10 * x4_1)) + (((bt a0 x5_1) - 48) % 256))), (wrap64 (x5_1 + 1)), (by first | rfl | (simp; done) | (simp [*]; done)), (by first | rfl | (simp; done) | (simp [*]; done)), H', ⟨by have := HK1.out; omega⟩, by repeat (first | exact Drawn0.refl _ | apply Drawn0.step)⟩
    ·rw [if_neg c3] at H
     exact absurd H (by simp)
   ·rw [if_neg c2] at H
    have c2b0 : decide (x5_1 < (a0.size : Int)) = false := decide_eq_false c2
    clear c2
    simp only [Option.some.injEq, Prod.mk.injEq] at H
    obtain ⟨rfl, rfl⟩ := H
    go_wp2
    go_ret2
    exact ⟨by first | rfl | (simp; done) | (simp [*]; done), by repeat (first | exact Drawn0.refl _ | apply Drawn0.step)⟩
def spec_IDate.f (k : Nat) (a0 : ByteArray) : Option (Int × Bool) := if (a0.size : Int) = 8 then (if 0 ≤ 4 then (if 4 ≤ (a0.size : Int) then ((spec_inumber.f k (a0.extract 0 4)).bind fun bt263 => (if 4 ≤ 6 then (if 6 ≤ (a0.size : Int) then ((spec_inumber.f k (a0.extract 4 6)).bind fun bt265 => ((spec_inumber.f k (a0.extract 6 a0.size)).bind fun bt267 => (if bt263.2 = true then (if bt265.2 = true then (if bt267.2 = true then (if bt263.1 < 1 then (some (0, false)) else (if bt265.1 < 1 then (some (0, false)) else (if bt265.1 > 12 then (some (0, false)) else (if bt267.1 < 1 then (some (0, false)) else ((spec_ILength.f k bt263.1 bt265.1).bind fun t269 => (if bt267.1 > t269 then (some (0, false)) else ((spec_IDays.f bt263.1 bt265.1 bt267.1).bind fun t270 => (some (t270, true))))))))) else (some (0, false))) else (some (0, false))) else (some (0, false))))) else (none)) else (none))) else (none)) else (none)) else (some (0, false))
theorem spec_IDate.calls (k : Nat) (a0 : ByteArray) (r1 : Int) (r2 : Bool) (w : World) (h : spec_IDate.f k a0 = some (r1, r2)) :
  Calls Tryz.prog 146 #[.string a0] w fun e w' => e = .returned (.tuple #[.int .i64 r1, .bool r2]) ∧ Drawn0 w w' := by
 have H : (if (a0.size : Int) = 8 then (if 0 ≤ 4 then (if 4 ≤ (a0.size : Int) then ((spec_inumber.f k (a0.extract 0 4)).bind fun bt263 => (if 4 ≤ 6 then (if 6 ≤ (a0.size : Int) then ((spec_inumber.f k (a0.extract 4 6)).bind fun bt265 => ((spec_inumber.f k (a0.extract 6 a0.size)).bind fun bt267 => (if bt263.2 = true then (if bt265.2 = true then (if bt267.2 = true then (if bt263.1 < 1 then (some (0, false)) else (if bt265.1 < 1 then (some (0, false)) else (if bt265.1 > 12 then (some (0, false)) else (if bt267.1 < 1 then (some (0, false)) else ((spec_ILength.f k bt263.1 bt265.1).bind fun t269 => (if bt267.1 > t269 then (some (0, false)) else ((spec_IDays.f bt263.1 bt265.1 bt267.1).bind fun t270 => (some (t270, true))))))))) else (some (0, false))) else (some (0, false))) else (some (0, false))))) else (none)) else (none))) else (none)) else (none)) else (some (0, false))) = some (r1, r2) := h
 clear h
 by_cases c2 : (a0.size : Int) = 8
 ·rw [if_pos c2] at H
  have c2b0 : ((a0.size : Int) == 8) = true := beq_iff_eq.mpr c2
  have c2b1 : ((a0.size : Int) != 8) = false := bne_eq_false_iff_eq.mpr c2
  clear c2
  by_cases c3 : 0 ≤ 4
  ·rw [if_pos c3] at H
   have c3b0 := eq_true c3
   have c3b1 : decide (0 ≤ 4) = true := decide_eq_true c3
   clear c3
   by_cases c4 : 4 ≤ (a0.size : Int)
   ·rw [if_pos c4] at H
    have c4b0 := eq_true c4
    have c4b1 : decide (4 ≤ (a0.size : Int)) = true := decide_eq_true c4
    clear c4
    replace H := Option.bind_eq_some_iff.mp H
    obtain ⟨⟨t263, t264⟩, A50, H⟩ := H
    replace H : (if 4 ≤ 6 then (if 6 ≤ (a0.size : Int) then ((spec_inumber.f k (a0.extract 4 6)).bind fun bt265 => ((spec_inumber.f k (a0.extract 6 a0.size)).bind fun bt267 => (if t264 = true then (if bt265.2 = true then (if bt267.2 = true then (if t263 < 1 then (some (0, false)) else (if bt265.1 < 1 then (some (0, false)) else (if bt265.1 > 12 then (some (0, false)) else (if bt267.1 < 1 then (some (0, false)) else ((spec_ILength.f k t263 bt265.1).bind fun t269 => (if bt267.1 > t269 then (some (0, false)) else ((spec_IDays.f t263 bt265.1 bt267.1).bind fun t270 => (some (t270, true))))))))) else (some (0, false))) else (some (0, false))) else (some (0, false))))) else (none)) else (none)) = some (r1, r2) := H
    have A5 := Aside0.mk A50
    clear A50
    by_cases c6 : 4 ≤ 6
    ·rw [if_pos c6] at H
     have c6b0 := eq_true c6
     have c6b1 : decide (4 ≤ 6) = true := decide_eq_true c6
     clear c6
     by_cases c7 : 6 ≤ (a0.size : Int)
     ·rw [if_pos c7] at H
      have c7b0 := eq_true c7
      have c7b1 : decide (6 ≤ (a0.size : Int)) = true := decide_eq_true c7
      clear c7
      replace H := Option.bind_eq_some_iff.mp H
      obtain ⟨⟨t265, t266⟩, A80, H⟩ := H
      replace H : ((spec_inumber.f k (a0.extract 6 a0.size)).bind fun bt267 => (if t264 = true then (if t266 = true then (if bt267.2 = true then (if t263 < 1 then (some (0, false)) else (if t265 < 1 then (some (0, false)) else (if t265 > 12 then (some (0, false)) else (if bt267.1 < 1 then (some (0, false)) else ((spec_ILength.f k t263 t265).bind fun t269 => (if bt267.1 > t269 then (some (0, false)) else ((spec_IDays.f t263 t265 bt267.1).bind fun t270 => (some (t270, true))))))))) else (some (0, false))) else (some (0, false))) else (some (0, false)))) = some (r1, r2) := H
      have A8 := Aside0.mk A80
      clear A80
      have c9b0 := eq_true (of_decide_eq_true (by first | (with_reducible assumption) | assumption) : 6 ≤ (a0.size : Int))
      replace H := Option.bind_eq_some_iff.mp H
      obtain ⟨⟨t267, t268⟩, A100, H⟩ := H
      replace H : (if t264 = true then (if t266 = true then (if t268 = true then (if t263 < 1 then (some (0, false)) else (if t265 < 1 then (some (0, false)) else (if t265 > 12 then (some (0, false)) else (if t267 < 1 then (some (0, false)) else ((spec_ILength.f k t263 t265).bind fun t269 => (if t267 > t269 then (some (0, false)) else ((spec_IDays.f t263 t265 t267).bind fun t270 => (some (t270, true))))))))) else (some (0, false))) else (some (0, false))) else (some (0, false))) = some (r1, r2) := H
      have A10 := Aside0.mk A100
      clear A100
      by_cases c11 : t264 = true
      ·subst c11
       have H1 : (if t266 = true then (if t268 = true then (if t263 < 1 then (some (0, false)) else (if t265 < 1 then (some (0, false)) else (if t265 > 12 then (some (0, false)) else (if t267 < 1 then (some (0, false)) else ((spec_ILength.f k t263 t265).bind fun t269 => (if t267 > t269 then (some (0, false)) else ((spec_IDays.f t263 t265 t267).bind fun t270 => (some (t270, true))))))))) else (some (0, false))) else (some (0, false))) = some (r1, r2) := by rw [if_pos rfl] at H; exact H
       clear H
       have H := H1
       clear H1
       by_cases c12 : t266 = true
       ·subst c12
        have H1 : (if t268 = true then (if t263 < 1 then (some (0, false)) else (if t265 < 1 then (some (0, false)) else (if t265 > 12 then (some (0, false)) else (if t267 < 1 then (some (0, false)) else ((spec_ILength.f k t263 t265).bind fun t269 => (if t267 > t269 then (some (0, false)) else ((spec_IDays.f t263 t265 t267).bind fun t270 => (some (t270, true))))))))) else (some (0, false))) = some (r1, r2) := by rw [if_pos rfl] at H; exact H
        clear H
        have H := H1
        clear H1
        by_cases c13 : t268 = true
        ·subst c13
         have H1 : (if t263 < 1 then (some (0, false)) else (if t265 < 1 then (some (0, false)) else (if t265 > 12 then (some (0, false)) else (if t267 < 1 then (some (0, false)) else ((spec_ILength.f k t263 t265).bind fun t269 => (if t267 > t269 then (some (0, false)) else ((spec_IDays.f t263 t265 t267).bind fun t270 => (some (t270, true))))))))) = some (r1, r2) := by rw [if_pos rfl] at H; exact H
         clear H
         have H := H1
         clear H1
         by_cases c14 : t263 < 1
         ·rw [if_pos c14] at H
          have c14b0 : decide (t263 < 1) = true := decide_eq_true c14
          clear c14
          simp only [Option.some.injEq, Prod.mk.injEq] at H
          obtain ⟨rfl, rfl⟩ := H
          go_enter Tryz.func146, Tryz.ntmps146
          go_wp2_with (first | ((with_reducible refine gate_callee (f := 147) rfl ?_); refine goesL_ (some 16) rfl rfl Tryz.func147 (by kernel_rfl) rfl #[.string (a0.extract 0 4)] rfl (by (try simp only [List.map_toArray, List.map_cons, List.map_nil]); first | done | rfl | (simp only [List.length_drop, List.length_take]; rfl)) ?_; (with_reducible refine (spec_inumber.calls k (a0.extract 0 4) t263 true _ A5.out).mono ?_); rintro e w' ⟨rfl, ⟨nd, rfl⟩⟩; refine ⟨_, rfl, ?_⟩) | ((with_reducible refine gate_callee (f := 147) rfl ?_); refine goesL_ (some 22) rfl rfl Tryz.func147 (by kernel_rfl) rfl #[.string (a0.extract 4 6)] rfl (by (try simp only [List.map_toArray, List.map_cons, List.map_nil]); first | done | rfl | (simp only [List.length_drop, List.length_take]; rfl)) ?_; (with_reducible refine (spec_inumber.calls k (a0.extract 4 6) t265 true _ A8.out).mono ?_); rintro e w' ⟨rfl, ⟨nd, rfl⟩⟩; refine ⟨_, rfl, ?_⟩) | ((with_reducible refine gate_callee (f := 147) rfl ?_); refine goesL_ (some 28) rfl rfl Tryz.func147 (by kernel_rfl) rfl #[.string (a0.extract 6 a0.size)] rfl (by (try simp only [List.map_toArray, List.map_cons, List.map_nil]); first | done | rfl | (simp only [List.length_drop, List.length_take]; rfl)) ?_; (with_reducible refine (spec_inumber.calls k (a0.extract 6 a0.size) t267 true _ A10.out).mono ?_); rintro e w' ⟨rfl, ⟨nd, rfl⟩⟩; refine ⟨_, rfl, ?_⟩))
          go_ret2
          exact ⟨by first | rfl | (simp; done) | (simp [*]; done), by repeat (first | exact Drawn0.refl _ | apply Drawn0.step)⟩
         ·rw [if_neg c14] at H
          have c14b0 : decide (t263 < 1) = false := decide_eq_false c14
          clear c14
          by_cases c15 : t265 < 1
          ·rw [if_pos c15] at H
           have c15b0 : decide (t265 < 1) = true := decide_eq_true c15
           clear c15
           simp only [Option.some.injEq, Prod.mk.injEq] at H
           obtain ⟨rfl, rfl⟩ := H
           go_enter Tryz.func146, Tryz.ntmps146
           go_wp2_with (first | ((with_reducible refine gate_callee (f := 147) rfl ?_); refine goesL_ (some 16) rfl rfl Tryz.func147 (by kernel_rfl) rfl #[.string (a0.extract 0 4)] rfl (by (try simp only [List.map_toArray, List.map_cons, List.map_nil]); first | done | rfl | (simp only [List.length_drop, List.length_take]; rfl)) ?_; (with_reducible refine (spec_inumber.calls k (a0.extract 0 4) t263 true _ A5.out).mono ?_); rintro e w' ⟨rfl, ⟨nd, rfl⟩⟩; refine ⟨_, rfl, ?_⟩) | ((with_reducible refine gate_callee (f := 147) rfl ?_); refine goesL_ (some 22) rfl rfl Tryz.func147 (by kernel_rfl) rfl #[.string (a0.extract 4 6)] rfl (by (try simp only [List.map_toArray, List.map_cons, List.map_nil]); first | done | rfl | (simp only [List.length_drop, List.length_take]; rfl)) ?_; (with_reducible refine (spec_inumber.calls k (a0.extract 4 6) t265 true _ A8.out).mono ?_); rintro e w' ⟨rfl, ⟨nd, rfl⟩⟩; refine ⟨_, rfl, ?_⟩) | ((with_reducible refine gate_callee (f := 147) rfl ?_); refine goesL_ (some 28) rfl rfl Tryz.func147 (by kernel_rfl) rfl #[.string (a0.extract 6 a0.size)] rfl (by (try simp only [List.map_toArray, List.map_cons, List.map_nil]); first | done | rfl | (simp only [List.length_drop, List.length_take]; rfl)) ?_; (with_reducible refine (spec_inumber.calls k (a0.extract 6 a0.size) t267 true _ A10.out).mono ?_); rintro e w' ⟨rfl, ⟨nd, rfl⟩⟩; refine ⟨_, rfl, ?_⟩))
           go_ret2
           exact ⟨by first | rfl | (simp; done) | (simp [*]; done), by repeat (first | exact Drawn0.refl _ | apply Drawn0.step)⟩
          ·rw [if_neg c15] at H
           have c15b0 : decide (t265 < 1) = false := decide_eq_false c15
           clear c15
           by_cases c16 : t265 > 12
           ·rw [if_pos c16] at H
            have c16b0 : decide (12 < t265) = true := decide_eq_true c16
            clear c16
            simp only [Option.some.injEq, Prod.mk.injEq] at H
            obtain ⟨rfl, rfl⟩ := H
            go_enter Tryz.func146, Tryz.ntmps146
            go_wp2_with (first | ((with_reducible refine gate_callee (f := 147) rfl ?_); refine goesL_ (some 16) rfl rfl Tryz.func147 (by kernel_rfl) rfl #[.string (a0.extract 0 4)] rfl (by (try simp only [List.map_toArray, List.map_cons, List.map_nil]); first | done | rfl | (simp only [List.length_drop, List.length_take]; rfl)) ?_; (with_reducible refine (spec_inumber.calls k (a0.extract 0 4) t263 true _ A5.out).mono ?_); rintro e w' ⟨rfl, ⟨nd, rfl⟩⟩; refine ⟨_, rfl, ?_⟩) | ((with_reducible refine gate_callee (f := 147) rfl ?_); refine goesL_ (some 22) rfl rfl Tryz.func147 (by kernel_rfl) rfl #[.string (a0.extract 4 6)] rfl (by (try simp only [List.map_toArray, List.map_cons, List.map_nil]); first | done | rfl | (simp only [List.length_drop, List.length_take]; rfl)) ?_; (with_reducible refine (spec_inumber.calls k (a0.extract 4 6) t265 true _ A8.out).mono ?_); rintro e w' ⟨rfl, ⟨nd, rfl⟩⟩; refine ⟨_, rfl, ?_⟩) | ((with_reducible refine gate_callee (f := 147) rfl ?_); refine goesL_ (some 28) rfl rfl Tryz.func147 (by kernel_rfl) rfl #[.string (a0.extract 6 a0.size)] rfl (by (try simp only [List.map_toArray, List.map_cons, List.map_nil]); first | done | rfl | (simp only [List.length_drop, List.length_take]; rfl)) ?_; (with_reducible refine (spec_inumber.calls k (a0.extract 6 a0.size) t267 true _ A10.out).mono ?_); rintro e w' ⟨rfl, ⟨nd, rfl⟩⟩; refine ⟨_, rfl, ?_⟩))
            go_ret2
            exact ⟨by first | rfl | (simp; done) | (simp [*]; done), by repeat (first | exact Drawn0.refl _ | apply Drawn0.step)⟩
           ·rw [if_neg c16] at H
            have c16b0 : decide (12 < t265) = false := decide_eq_false c16
            clear c16
            by_cases c17 : t267 < 1
            ·rw [if_pos c17] at H
             have c17b0 : decide (t267 < 1) = true := decide_eq_true c17
             clear c17
             simp only [Option.some.injEq, Prod.mk.injEq] at H
             obtain ⟨rfl, rfl⟩ := H
             go_enter Tryz.func146, Tryz.ntmps146
             go_wp2_with (first | ((with_reducible refine gate_callee (f := 147) rfl ?_); refine goesL_ (some 16) rfl rfl Tryz.func147 (by kernel_rfl) rfl #[.string (a0.extract 0 4)] rfl (by (try simp only [List.map_toArray, List.map_cons, List.map_nil]); first | done | rfl | (simp only [List.length_drop, List.length_take]; rfl)) ?_; (with_reducible refine (spec_inumber.calls k (a0.extract 0 4) t263 true _ A5.out).mono ?_); rintro e w' ⟨rfl, ⟨nd, rfl⟩⟩; refine ⟨_, rfl, ?_⟩) | ((with_reducible refine gate_callee (f := 147) rfl ?_); refine goesL_ (some 22) rfl rfl Tryz.func147 (by kernel_rfl) rfl #[.string (a0.extract 4 6)] rfl (by (try simp only [List.map_toArray, List.map_cons, List.map_nil]); first | done | rfl | (simp only [List.length_drop, List.length_take]; rfl)) ?_; (with_reducible refine (spec_inumber.calls k (a0.extract 4 6) t265 true _ A8.out).mono ?_); rintro e w' ⟨rfl, ⟨nd, rfl⟩⟩; refine ⟨_, rfl, ?_⟩) | ((with_reducible refine gate_callee (f := 147) rfl ?_); refine goesL_ (some 28) rfl rfl Tryz.func147 (by kernel_rfl) rfl #[.string (a0.extract 6 a0.size)] rfl (by (try simp only [List.map_toArray, List.map_cons, List.map_nil]); first | done | rfl | (simp only [List.length_drop, List.length_take]; rfl)) ?_; (with_reducible refine (spec_inumber.calls k (a0.extract 6 a0.size) t267 true _ A10.out).mono ?_); rintro e w' ⟨rfl, ⟨nd, rfl⟩⟩; refine ⟨_, rfl, ?_⟩))
             go_ret2
             exact ⟨by first | rfl | (simp; done) | (simp [*]; done), by repeat (first | exact Drawn0.refl _ | apply Drawn0.step)⟩
            ·rw [if_neg c17] at H
             have c17b0 : decide (t267 < 1) = false := decide_eq_false c17
             clear c17
             replace H := Option.bind_eq_some_iff.mp H
             obtain ⟨t269, A180, H⟩ := H
             replace H : (if t267 > t269 then (some (0, false)) else ((spec_IDays.f t263 t265 t267).bind fun t270 => (some (t270, true)))) = some (r1, r2) := H
             have A18 := Aside0.mk A180
             clear A180
             by_cases c19 : t267 > t269
             ·rw [if_pos c19] at H
              have c19b0 : decide (t269 < t267) = true := decide_eq_true c19
              clear c19
              simp only [Option.some.injEq, Prod.mk.injEq] at H
              obtain ⟨rfl, rfl⟩ := H
              go_enter Tryz.func146, Tryz.ntmps146
              go_wp2_with (first | ((with_reducible refine gate_callee (f := 147) rfl ?_); refine goesL_ (some 16) rfl rfl Tryz.func147 (by kernel_rfl) rfl #[.string (a0.extract 0 4)] rfl (by (try simp only [List.map_toArray, List.map_cons, List.map_nil]); first | done | rfl | (simp only [List.length_drop, List.length_take]; rfl)) ?_; (with_reducible refine (spec_inumber.calls k (a0.extract 0 4) t263 true _ A5.out).mono ?_); rintro e w' ⟨rfl, ⟨nd, rfl⟩⟩; refine ⟨_, rfl, ?_⟩) | ((with_reducible refine gate_callee (f := 147) rfl ?_); refine goesL_ (some 22) rfl rfl Tryz.func147 (by kernel_rfl) rfl #[.string (a0.extract 4 6)] rfl (by (try simp only [List.map_toArray, List.map_cons, List.map_nil]); first | done | rfl | (simp only [List.length_drop, List.length_take]; rfl)) ?_; (with_reducible refine (spec_inumber.calls k (a0.extract 4 6) t265 true _ A8.out).mono ?_); rintro e w' ⟨rfl, ⟨nd, rfl⟩⟩; refine ⟨_, rfl, ?_⟩) | ((with_reducible refine gate_callee (f := 147) rfl ?_); refine goesL_ (some 28) rfl rfl Tryz.func147 (by kernel_rfl) rfl #[.string (a0.extract 6 a0.size)] rfl (by (try simp only [List.map_toArray, List.map_cons, List.map_nil]); first | done | rfl | (simp only [List.length_drop, List.length_take]; rfl)) ?_; (with_reducible refine (spec_inumber.calls k (a0.extract 6 a0.size) t267 true _ A10.out).mono ?_); rintro e w' ⟨rfl, ⟨nd, rfl⟩⟩; refine ⟨_, rfl, ?_⟩) | (go_at_call 20; (with_reducible refine (spec_ILength.calls k t263 t265 t269 _ A18.out).mono ?_); rintro e w' ⟨rfl, ⟨nd, rfl⟩⟩))
              go_ret2
              exact ⟨by first | rfl | (simp; done) | (simp [*]; done), by repeat (first | exact Drawn0.refl _ | apply Drawn0.step)⟩
             ·rw [if_neg c19] at H
              have c19b0 : decide (t269 < t267) = false := decide_eq_false c19
              clear c19
              replace H := Option.bind_eq_some_iff.mp H
              obtain ⟨t270, A200, H⟩ := H
              replace H : (some (t270, true)) = some (r1, r2) := H
              have A20 := Aside0.mk A200
              clear A200
              simp only [Option.some.injEq, Prod.mk.injEq] at H
              obtain ⟨rfl, rfl⟩ := H
              go_enter Tryz.func146, Tryz.ntmps146
              go_wp2_with (first | ((with_reducible refine gate_callee (f := 147) rfl ?_); refine goesL_ (some 16) rfl rfl Tryz.func147 (by kernel_rfl) rfl #[.string (a0.extract 0 4)] rfl (by (try simp only [List.map_toArray, List.map_cons, List.map_nil]); first | done | rfl | (simp only [List.length_drop, List.length_take]; rfl)) ?_; (with_reducible refine (spec_inumber.calls k (a0.extract 0 4) t263 true _ A5.out).mono ?_); rintro e w' ⟨rfl, ⟨nd, rfl⟩⟩; refine ⟨_, rfl, ?_⟩) | ((with_reducible refine gate_callee (f := 147) rfl ?_); refine goesL_ (some 22) rfl rfl Tryz.func147 (by kernel_rfl) rfl #[.string (a0.extract 4 6)] rfl (by (try simp only [List.map_toArray, List.map_cons, List.map_nil]); first | done | rfl | (simp only [List.length_drop, List.length_take]; rfl)) ?_; (with_reducible refine (spec_inumber.calls k (a0.extract 4 6) t265 true _ A8.out).mono ?_); rintro e w' ⟨rfl, ⟨nd, rfl⟩⟩; refine ⟨_, rfl, ?_⟩) | ((with_reducible refine gate_callee (f := 147) rfl ?_); refine goesL_ (some 28) rfl rfl Tryz.func147 (by kernel_rfl) rfl #[.string (a0.extract 6 a0.size)] rfl (by (try simp only [List.map_toArray, List.map_cons, List.map_nil]); first | done | rfl | (simp only [List.length_drop, List.length_take]; rfl)) ?_; (with_reducible refine (spec_inumber.calls k (a0.extract 6 a0.size) t267 true _ A10.out).mono ?_); rintro e w' ⟨rfl, ⟨nd, rfl⟩⟩; refine ⟨_, rfl, ?_⟩) | (go_at_call 20; (with_reducible refine (spec_ILength.calls k t263 t265 t269 _ A18.out).mono ?_); rintro e w' ⟨rfl, ⟨nd, rfl⟩⟩) | ((with_reducible refine gate_callee (f := 19) rfl ?_); refine goesL_ (some 67) rfl rfl Tryz.func19 (by kernel_rfl) rfl #[.int .i64 t263, .int .i64 t265, .int .i64 t267] rfl (by (try simp only [List.map_toArray, List.map_cons, List.map_nil]); first | done | rfl | (simp only [List.length_drop, List.length_take]; rfl)) ?_; (with_reducible refine (spec_IDays.calls t263 t265 t267 t270 _ A20.out).mono ?_); rintro e w' ⟨rfl, ⟨nd, rfl⟩⟩; refine ⟨_, rfl, ?_⟩))
              go_ret2
              exact ⟨by first | rfl | (simp; done) | (simp [*]; done), by repeat (first | exact Drawn0.refl _ | apply Drawn0.step)⟩
        ·replace c13 := Bool.eq_false_iff.mpr c13
         subst c13
         have H1 : (some (0, false)) = some (r1, r2) := by rw [if_neg (show ¬ (false = true) by decide)] at H; exact H
         clear H
         have H := H1
         clear H1
         simp only [Option.some.injEq, Prod.mk.injEq] at H
         obtain ⟨rfl, rfl⟩ := H
         go_enter Tryz.func146, Tryz.ntmps146
         go_wp2_with (first | ((with_reducible refine gate_callee (f := 147) rfl ?_); refine goesL_ (some 16) rfl rfl Tryz.func147 (by kernel_rfl) rfl #[.string (a0.extract 0 4)] rfl (by (try simp only [List.map_toArray, List.map_cons, List.map_nil]); first | done | rfl | (simp only [List.length_drop, List.length_take]; rfl)) ?_; (with_reducible refine (spec_inumber.calls k (a0.extract 0 4) t263 true _ A5.out).mono ?_); rintro e w' ⟨rfl, ⟨nd, rfl⟩⟩; refine ⟨_, rfl, ?_⟩) | ((with_reducible refine gate_callee (f := 147) rfl ?_); refine goesL_ (some 22) rfl rfl Tryz.func147 (by kernel_rfl) rfl #[.string (a0.extract 4 6)] rfl (by (try simp only [List.map_toArray, List.map_cons, List.map_nil]); first | done | rfl | (simp only [List.length_drop, List.length_take]; rfl)) ?_; (with_reducible refine (spec_inumber.calls k (a0.extract 4 6) t265 true _ A8.out).mono ?_); rintro e w' ⟨rfl, ⟨nd, rfl⟩⟩; refine ⟨_, rfl, ?_⟩) | ((with_reducible refine gate_callee (f := 147) rfl ?_); refine goesL_ (some 28) rfl rfl Tryz.func147 (by kernel_rfl) rfl #[.string (a0.extract 6 a0.size)] rfl (by (try simp only [List.map_toArray, List.map_cons, List.map_nil]); first | done | rfl | (simp only [List.length_drop, List.length_take]; rfl)) ?_; (with_reducible refine (spec_inumber.calls k (a0.extract 6 a0.size) t267 false _ A10.out).mono ?_); rintro e w' ⟨rfl, ⟨nd, rfl⟩⟩; refine ⟨_, rfl, ?_⟩))
         go_ret2
         exact ⟨by first | rfl | (simp; done) | (simp [*]; done), by repeat (first | exact Drawn0.refl _ | apply Drawn0.step)⟩
       ·replace c12 := Bool.eq_false_iff.mpr c12
        subst c12
        have H1 : (some (0, false)) = some (r1, r2) := by rw [if_neg (show ¬ (false = true) by decide)] at H; exact H
        clear H
        have H := H1
        clear H1
        simp only [Option.some.injEq, Prod.mk.injEq] at H
        obtain ⟨rfl, rfl⟩ := H
        go_enter Tryz.func146, Tryz.ntmps146
        go_wp2_with (first | ((with_reducible refine gate_callee (f := 147) rfl ?_); refine goesL_ (some 16) rfl rfl Tryz.func147 (by kernel_rfl) rfl #[.string (a0.extract 0 4)] rfl (by (try simp only [List.map_toArray, List.map_cons, List.map_nil]); first | done | rfl | (simp only [List.length_drop, List.length_take]; rfl)) ?_; (with_reducible refine (spec_inumber.calls k (a0.extract 0 4) t263 true _ A5.out).mono ?_); rintro e w' ⟨rfl, ⟨nd, rfl⟩⟩; refine ⟨_, rfl, ?_⟩) | ((with_reducible refine gate_callee (f := 147) rfl ?_); refine goesL_ (some 22) rfl rfl Tryz.func147 (by kernel_rfl) rfl #[.string (a0.extract 4 6)] rfl (by (try simp only [List.map_toArray, List.map_cons, List.map_nil]); first | done | rfl | (simp only [List.length_drop, List.length_take]; rfl)) ?_; (with_reducible refine (spec_inumber.calls k (a0.extract 4 6) t265 false _ A8.out).mono ?_); rintro e w' ⟨rfl, ⟨nd, rfl⟩⟩; refine ⟨_, rfl, ?_⟩) | ((with_reducible refine gate_callee (f := 147) rfl ?_); refine goesL_ (some 28) rfl rfl Tryz.func147 (by kernel_rfl) rfl #[.string (a0.extract 6 a0.size)] rfl (by (try simp only [List.map_toArray, List.map_cons, List.map_nil]); first | done | rfl | (simp only [List.length_drop, List.length_take]; rfl)) ?_; (with_reducible refine (spec_inumber.calls k (a0.extract 6 a0.size) t267 t268 _ A10.out).mono ?_); rintro e w' ⟨rfl, ⟨nd, rfl⟩⟩; refine ⟨_, rfl, ?_⟩))
        go_ret2
        exact ⟨by first | rfl | (simp; done) | (simp [*]; done), by repeat (first | exact Drawn0.refl _ | apply Drawn0.step)⟩
      ·replace c11 := Bool.eq_false_iff.mpr c11
       subst c11
       have H1 : (some (0, false)) = some (r1, r2) := by rw [if_neg (show ¬ (false = true) by decide)] at H; exact H
       clear H
       have H := H1
       clear H1
       simp only [Option.some.injEq, Prod.mk.injEq] at H
       obtain ⟨rfl, rfl⟩ := H
       go_enter Tryz.func146, Tryz.ntmps146
       go_wp2_with (first | ((with_reducible refine gate_callee (f := 147) rfl ?_); refine goesL_ (some 16) rfl rfl Tryz.func147 (by kernel_rfl) rfl #[.string (a0.extract 0 4)] rfl (by (try simp only [List.map_toArray, List.map_cons, List.map_nil]); first | done | rfl | (simp only [List.length_drop, List.length_take]; rfl)) ?_; (with_reducible refine (spec_inumber.calls k (a0.extract 0 4) t263 false _ A5.out).mono ?_); rintro e w' ⟨rfl, ⟨nd, rfl⟩⟩; refine ⟨_, rfl, ?_⟩) | ((with_reducible refine gate_callee (f := 147) rfl ?_); refine goesL_ (some 22) rfl rfl Tryz.func147 (by kernel_rfl) rfl #[.string (a0.extract 4 6)] rfl (by (try simp only [List.map_toArray, List.map_cons, List.map_nil]); first | done | rfl | (simp only [List.length_drop, List.length_take]; rfl)) ?_; (with_reducible refine (spec_inumber.calls k (a0.extract 4 6) t265 t266 _ A8.out).mono ?_); rintro e w' ⟨rfl, ⟨nd, rfl⟩⟩; refine ⟨_, rfl, ?_⟩) | ((with_reducible refine gate_callee (f := 147) rfl ?_); refine goesL_ (some 28) rfl rfl Tryz.func147 (by kernel_rfl) rfl #[.string (a0.extract 6 a0.size)] rfl (by (try simp only [List.map_toArray, List.map_cons, List.map_nil]); first | done | rfl | (simp only [List.length_drop, List.length_take]; rfl)) ?_; (with_reducible refine (spec_inumber.calls k (a0.extract 6 a0.size) t267 t268 _ A10.out).mono ?_); rintro e w' ⟨rfl, ⟨nd, rfl⟩⟩; refine ⟨_, rfl, ?_⟩))
       go_ret2
       exact ⟨by first | rfl | (simp; done) | (simp [*]; done), by repeat (first | exact Drawn0.refl _ | apply Drawn0.step)⟩
     ·rw [if_neg c7] at H
      exact absurd H (by simp)
    ·rw [if_neg c6] at H
     exact absurd H (by simp)
   ·rw [if_neg c4] at H
    exact absurd H (by simp)
  ·rw [if_neg c3] at H
   exact absurd H (by simp)
 ·rw [if_neg c2] at H
  have c2b0 : ((a0.size : Int) == 8) = false := beq_eq_false_iff_ne.mpr c2
  have c2b1 : ((a0.size : Int) != 8) = true := bne_iff_ne.mpr c2
  simp only [Option.some.injEq, Prod.mk.injEq] at H
  obtain ⟨rfl, rfl⟩ := H
  go_enter Tryz.func146, Tryz.ntmps146
  go_wp2
  go_ret2
  exact ⟨by first | rfl | (simp; done) | (simp [*]; done), by repeat (first | exact Drawn0.refl _ | apply Drawn0.step)⟩
end Go.Proofs.YtcllaplddebilaaGreatDoor.PFnKMatch

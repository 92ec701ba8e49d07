/- laws.FnKMatch: a part of the proof: Cal, Ztime, Moment, FiltK, StoreK, Maps, Maps2, GMap. -/
import Derived.MapKept
import Derived.Test.YtcllaplddebilaaGreatDoorK04
set_option maxRecDepth 1000000
set_option maxHeartbeats 64000000
set_option linter.unusedVariables false
set_option linter.unusedSimpArgs false
section
namespace Go.Proofs.YtcllaplddebilaaGreatDoor
def lpY (y : Int) : Bool := y % 4 == 0 && (y % 100 != 0 || y % 400 == 0)
def lpI (y : Int) : Int := if lpY y then 1 else 0
def mlen (y m : Int) : Int :=
 if m = 2 then 28 + lpI y else if m = 4 ∨ m = 6 ∨ m = 9 ∨ m = 11 then 30 else 31
def dby (y : Int) : Int := 365 * (y - 1) + (y - 1) / 4 - (y - 1) / 100 + (y - 1) / 400
def cum (y m : Int) : Int :=
 if m ≤ 1 then 0 else if m = 2 then 31 else
 (if m = 3 then 59 else if m = 4 then 90 else if m = 5 then 120 else if m = 6 then 151 else if m = 7 then 181
 else if m = 8 then 212 else if m = 9 then 243 else if m = 10 then 273 else if m = 11 then 304 else if m = 12 then 334 else 365) + lpI y
def dnum (y m d : Int) : Int := dby y + cum y m + d - 1 - 719162
def valid (y m d : Int) : Prop := 1 ≤ y ∧ 1 ≤ m ∧ m ≤ 12 ∧ 1 ≤ d ∧ d ≤ mlen y m
theorem lpI_01 (y : Int) : lpI y = 0 ∨ lpI y = 1 := by unfold lpI; split <;> simp
theorem lpI_eq (y : Int) : lpI y = 1 ↔ (y % 4 = 0 ∧ (y % 100 ≠ 0 ∨ y % 400 = 0)) := by
 unfold lpI lpY; simp; omega
theorem lpI_div (y : Int) : lpI y = y / 4 - (y - 1) / 4 - (y / 100 - (y - 1) / 100) + (y / 400 - (y - 1) / 400) := by
 have h := lpI_eq y
 rcases lpI_01 y with h0 | h0 <;> rw [h0] at h ⊢ <;> simp at h <;> omega
theorem mlen_bd (y m : Int) : 28 ≤ mlen y m ∧ mlen y m ≤ 31 := by
 unfold mlen; have := lpI_01 y; repeat' split
 all_goals omega
theorem cum_mono (y m : Int) (h1 : 1 ≤ m) (h2 : m ≤ 12) : 0 ≤ cum y m ∧ cum y m + mlen y m ≤ 365 + lpI y := by
 have := lpI_01 y
 have h : m = 1 ∨ m = 2 ∨ m = 3 ∨ m = 4 ∨ m = 5 ∨ m = 6 ∨ m = 7 ∨ m = 8 ∨ m = 9 ∨ m = 10 ∨ m = 11 ∨ m = 12 := by omega
 rcases h with h | h | h | h | h | h | h | h | h | h | h | h <;> subst h <;> simp [cum, mlen] <;> omega
def idays (y m d : Int) : Int :=
 let y' := if m ≤ 2 then y - 1 else y
 let m' := if m ≤ 2 then m + 12 else m
 let era := y' / 400
 let yr := y' - 400 * era
 era * 146097 + yr * 365 + yr / 4 - yr / 100 + ((153 * (m' - 3) + 2) / 5 + d - 1) - 719468
theorem idays_eq (y m d : Int) (h1 : 1 ≤ m) (h2 : m ≤ 12) : idays y m d = dnum y m d := by
 have hl := lpI_div y
 have : m = 1 ∨ m = 2 ∨ m = 3 ∨ m = 4 ∨ m = 5 ∨ m = 6 ∨ m = 7 ∨ m = 8 ∨ m = 9 ∨ m = 10 ∨ m = 11 ∨ m = 12 := by omega
 rcases this with h | h | h | h | h | h | h | h | h | h | h | h <;> subst h <;> simp [idays, dnum, cum, dby] <;> omega
theorem abs_years (y c q : Int) (h : y = 100 * c + q) (q0 : 0 ≤ q) (q1 : q ≤ 99) : 146097 * c / 4 + 1461 * q / 4 = 365 * y + y / 4 - y / 100 + y / 400 := by
 have h1 : y / 100 = c := by omega
 have h2 : y / 4 = 25 * c + q / 4 := by omega
 have h3 : y / 400 = c / 4 := by omega
 have h4 : 146097 * c / 4 = 36524 * c + c / 4 := by omega
 have h5 : 1461 * q / 4 = 365 * q + q / 4 := by omega
 rw [h1, h2, h3, h4, h5]; omega
theorem abs_lo (y m d : Int) (h2 : 1 ≤ m) (h3 : m < 3) :
  146097 * ((y - 1 + 292277022400) / 100) / 4 + 1461 * ((y - 1 + 292277022400) % 100) / 4 + (979 * (m + 12) - 2919) / 32 + d - 1 = dnum y m d + 106751991073400 := by
 rw [abs_years (y - 1 + 292277022400) _ _ (by omega) (by omega) (by omega)]
 have : m = 1 ∨ m = 2 := by omega
 rcases this with rfl | rfl <;> simp [dnum, dby, cum] <;> omega
theorem abs_hi (y m d : Int) (h2 : 3 ≤ m) (h3 : m ≤ 12) :
  146097 * ((y + 292277022400) / 100) / 4 + 1461 * ((y + 292277022400) % 100) / 4 + (979 * m - 2919) / 32 + d - 1 = dnum y m d + 106751991073400 := by
 rw [abs_years (y + 292277022400) _ _ (by omega) (by omega) (by omega)]
 have hl := lpI_div y
 have : m = 3 ∨ m = 4 ∨ m = 5 ∨ m = 6 ∨ m = 7 ∨ m = 8 ∨ m = 9 ∨ m = 10 ∨ m = 11 ∨ m = 12 := by omega
 rcases this with rfl | rfl | rfl | rfl | rfl | rfl | rfl | rfl | rfl | rfl <;> simp [dnum, dby, cum] <;> omega
theorem abs_wrap (Y d ay : Int) (hY : 292277000000 ≤ Y) (hY2 : Y ≤ 292278000000) (a0 : 0 ≤ ay) (a1 : ay ≤ 400) (h4 : -1000000 ≤ d) (h5 : d ≤ 1000000) :
  (146097 * (Y / 100) / 4 + (1461 * (Y % 100) / 4 + ay + d - 1) % 18446744073709551616) % 18446744073709551616 = 146097 * (Y / 100) / 4 + 1461 * (Y % 100) / 4 + ay + d - 1 := by
 generalize hc : Y / 100 = c
 generalize hq : Y % 100 = q
 have c0 : 2922000000 ≤ c := by omega
 have c1 : c ≤ 2923000000 := by omega
 have q0 : 0 ≤ q := by omega
 have q1 : q ≤ 99 := by omega
 clear hc hq hY hY2
 have h1 : 146097 * c / 4 = 36524 * c + c / 4 := by omega
 have h2 : 1461 * q / 4 = 365 * q + q / 4 := by omega
 rw [h1, h2]; omega
theorem dnum_bd (y m d : Int) (h0 : 1 ≤ y) (h1 : y ≤ 100000) (h2 : 1 ≤ m) (h3 : m ≤ 12) (h4 : -1000000 ≤ d) (h5 : d ≤ 1000000) : -2000000 ≤ dnum y m d ∧ dnum y m d ≤ 40000000 := by
 have hc := cum_mono y m h2 h3
 have hl := lpI_01 y
 have hm := mlen_bd y m
 unfold dnum dby; omega
end Go.Proofs.YtcllaplddebilaaGreatDoor
end
section
namespace Go.Proofs.YtcllaplddebilaaGreatDoor
open Go.RowKit Go.Sort
attribute [local go_sem] cell?_grow frozen?_grow cell?_redrawn frozen?_redrawn size_redrawn size_grow ba_get ba_extract
attribute [local simp] size_redrawn
theorem norm_in (hi lo base : Int) (w : World) (h0 : 0 ≤ lo) (h1 : lo < base) (_h2 : base ≤ 1000000000) :
  Calls Tryz.prog 232 #[.int .i64 hi, .int .i64 lo, .int .i64 base] w fun e w' => e = .returned (.tuple #[.int .i64 hi, .int .i64 lo]) ∧ w = w' := by
 go_enter Tryz.func232, Tryz.ntmps232
 go_wp2
 all_goals go_ret2
 all_goals exact ⟨rfl, rfl⟩
theorem unixN_any (s : Int) (w : World) (h0 : -1000000000000000 ≤ s) (h1 : s ≤ 1000000000000000) :
  Calls Tryz.prog 27 #[.int .i64 s, .int .i64 0] w fun e w' => e = .returned (.agg #[.int .i64 (s + 62135596800), .int .i32 0, .string { data := #[85, 84, 67] }, .int .i64 0]) ∧ Below w.heap.size w w' := by
 go_enter Tryz.func27, Tryz.ntmps27
 go_wp2
 refine bodyPost_ret (v := .agg #[.int .i64 (s + 62135596800), .int .i32 0, .string { data := #[85, 84, 67] }, .int .i64 0]) (by simp [results, Tryz.results27, go_sem]) rfl ⟨rfl, ?_⟩; (repeat (first | exact Below.refl _ _ | (refine below_drewN ?_ _) | (refine Below.trans ?_ ((below_regrown _ _ _).mono (by simp <;> omega))) | (refine Below.drew ?_) | (refine Below.alloc ?_ (by simp <;> omega) _) | (refine Below.setCell ?_ (by simp <;> omega) _) | assumption))
theorem toAbs (y m d : Int) (w : World) (h0 : 1 ≤ y) (h1 : y ≤ 100000) (h2 : 1 ≤ m) (h3 : m ≤ 12) (h4 : -1000000 ≤ d) (h5 : d ≤ 1000000) :
  Calls Tryz.prog 233 #[.int .i64 y, .int .i64 m, .int .i64 d] w fun e w' => e = .returned (.int .u64 (dnum y m d + 106751991073400)) ∧ Below w.heap.size w w' := by
 go_enter Tryz.func233, Tryz.ntmps233
 go_wp2
 all_goals go_ret
 all_goals refine ⟨ret_int ?_, by (repeat (first | exact Below.refl _ _ | (refine below_drewN ?_ _) | (refine Below.trans ?_ ((below_regrown _ _ _).mono (by simp <;> omega))) | (refine Below.drew ?_) | (refine Below.alloc ?_ (by simp <;> omega) _) | (refine Below.setCell ?_ (by simp <;> omega) _) | assumption))⟩
 all_goals rw [IntKind.wrap_u64, IntKind.wrap_u64]
 all_goals first | (rw [abs_wrap _ _ _ (by omega) (by omega) (by omega) (by omega) h4 h5, abs_lo y m d h2 (by assumption)]) | (rw [abs_wrap _ _ _ (by omega) (by omega) (by omega) (by omega) h4 h5, abs_hi y m d (by assumption) h3])
theorem date_wrap (D T : Int) (h0 : -2000000 ≤ D) (h1 : D ≤ 40000000) (t0 : 0 ≤ T) (t1 : T ≤ 86400) :
  wrap64 (wrap64 (wrap64 ((D + 106751991073400) * 86400) + T) + -9223372028741760000) = D * 86400 + T := by
 unfold wrap64; omega
theorem Date_any (y m d h mi s : Int) (w : World) (h0 : 1 ≤ y) (h1 : y ≤ 100000) (h2 : 1 ≤ m) (h3 : m ≤ 12) (h4 : -1000000 ≤ d) (h5 : d ≤ 1000000) (a0 : 0 ≤ h) (a1 : h ≤ 23) (b0 : 0 ≤ mi) (b1 : mi ≤ 59) (c0 : 0 ≤ s) (c1 : s ≤ 59) :
  Calls Tryz.prog 184 #[.int .i64 y, .int .i64 m, .int .i64 d, .int .i64 h, .int .i64 mi, .int .i64 s, .int .i64 0] w fun e w' => e = .returned (.agg #[.int .i64 (dnum y m d * 86400 + h * 3600 + mi * 60 + s + 62135596800), .int .i32 0, .string { data := #[85, 84, 67] }, .int .i64 0]) ∧ Below w.heap.size w w' := by
 have hbd := dnum_bd y m d h0 h1 h2 h3 h4 h5
 have HW := hI (date_wrap (dnum y m d) (h * 3600 + mi * 60 + s) hbd.1 hbd.2 (by omega) (by omega))
 go_enter Tryz.func184, Tryz.ntmps184
 go_wp2_with (first | (go_at_call 232; refine (norm_in _ _ _ _ (by omega) (by omega) (by omega)).mono ?_; rintro e w' ⟨rfl, rfl⟩) | (go_at_call 233; refine (toAbs y m d _ h0 h1 h2 h3 h4 h5).mono ?_; rintro e w' ⟨rfl, hb⟩))
 rw [HW.out]
 refine (unixN_any _ _ (by omega) (by omega)).mono ?_
 rintro e w2 ⟨rfl, hb2⟩
 have hB := Below.then hb hb2
 clear hb hb2
 obtain ⟨hc, hf⟩ := bcell hB
 have hz : w.heap.size + 1 ≤ w2.heap.size := by have := hB.size; simp at this; omega
 go_wp2
 refine bodyPost_ret (v := .agg #[.int .i64 (dnum y m d * 86400 + h * 3600 + mi * 60 + s + 62135596800), .int .i32 0, .string { data := #[85, 84, 67] }, .int .i64 0]) ?_ rfl ⟨rfl, ?_⟩
 ·simp [results, Tryz.results184, go_sem, hc]
  omega
 ·((repeat (first | (refine below_drewN ?_ _) | (refine Below.drew ?_) | (refine Below.setCell ?_ (by simp <;> omega) _) | (refine Below.alloc ?_ (by simp <;> omega) _))); refine Below.trans ?_ (Below.mono hB (by simp <;> omega)); (repeat (first | exact Below.refl _ _ | (refine below_drewN ?_ _) | (refine Below.trans ?_ ((below_regrown _ _ _).mono (by simp <;> omega))) | (refine Below.drew ?_) | (refine Below.alloc ?_ (by simp <;> omega) _) | (refine Below.setCell ?_ (by simp <;> omega) _) | assumption)))
theorem isLeap_any (y : Int) (w : World) (h3 : 0 ≤ y) (h4 : y ≤ 100000) :
  Calls Tryz.prog 251 #[.int .i64 y] w fun e w' => e = .returned (.bool (lpY y)) ∧ Below w.heap.size w w' := by
 go_enter Tryz.func251, Tryz.ntmps251
 have e3 := and3 y
 have e15 := and15 y
 by_cases h : y % 25 = 0
 ·go_wp2
  go_ret
  refine ⟨?_, by (repeat (first | exact Below.refl _ _ | (refine below_drewN ?_ _) | (refine Below.trans ?_ ((below_regrown _ _ _).mono (by simp <;> omega))) | (refine Below.drew ?_) | (refine Below.alloc ?_ (by simp <;> omega) _) | (refine Below.setCell ?_ (by simp <;> omega) _) | assumption))⟩
  show Ending.returned (Value.bool (y % 16 == 0)) = _
  have : (y % 16 == 0) = lpY y := by
   unfold lpY; rw [Bool.eq_iff_iff]; simp; omega
  rw [this]
 ·go_wp2
  go_ret
  refine ⟨?_, by (repeat (first | exact Below.refl _ _ | (refine below_drewN ?_ _) | (refine Below.trans ?_ ((below_regrown _ _ _).mono (by simp <;> omega))) | (refine Below.drew ?_) | (refine Below.alloc ?_ (by simp <;> omega) _) | (refine Below.setCell ?_ (by simp <;> omega) _) | assumption))⟩
  show Ending.returned (Value.bool (y % 4 == 0)) = _
  have : (y % 4 == 0) = lpY y := by
   unfold lpY; rw [Bool.eq_iff_iff]; simp; omega
  rw [this]
theorem daysIn_any (m y : Int) (w : World) (h1 : 1 ≤ m) (h2 : m ≤ 12) (h3 : 0 ≤ y) (h4 : y ≤ 100000) :
  Calls Tryz.prog 235 #[.int .i64 m, .int .i64 y] w fun e w' => e = .returned (.int .i64 (mlen y m)) ∧ Below w.heap.size w w' := by
 by_cases hm : m = 2
 ·subst hm
  cases hl : lpY y
  all_goals
   go_enter Tryz.func235, Tryz.ntmps235
   go_wp2_with (go_at_call 251; refine (isLeap_any y _ h3 h4).mono ?_; rw [hl]; rintro e w' ⟨rfl, hb⟩)
   go_ret
   refine ⟨?_, by (repeat (first | exact Below.refl _ _ | (refine below_drewN ?_ _) | (refine Below.trans ?_ ((below_regrown _ _ _).mono (by simp <;> omega))) | (refine Below.drew ?_) | (refine Below.alloc ?_ (by simp <;> omega) _) | (refine Below.setCell ?_ (by simp <;> omega) _) | assumption))⟩
   simp [mlen, lpI, hl]
 ·have e1 := and1 (m + m / 8)
  go_enter Tryz.func235, Tryz.ntmps235
  go_wp2
  go_ret
  refine ⟨ret_int ?_, by (repeat (first | exact Below.refl _ _ | (refine below_drewN ?_ _) | (refine Below.trans ?_ ((below_regrown _ _ _).mono (by simp <;> omega))) | (refine Below.drew ?_) | (refine Below.alloc ?_ (by simp <;> omega) _) | (refine Below.setCell ?_ (by simp <;> omega) _) | assumption))⟩
  first | rw [e1] | skip
  clear e1
  have h : m = 1 ∨ m = 3 ∨ m = 4 ∨ m = 5 ∨ m = 6 ∨ m = 7 ∨ m = 8 ∨ m = 9 ∨ m = 10 ∨ m = 11 ∨ m = 12 := by omega
  rcases h with h | h | h | h | h | h | h | h | h | h | h <;> subst h <;> simp [mlen]
theorem getnum2 (s : ByteArray) (b : Bool) (w : World) (h : 2 ≤ s.size) (h0 : (48 : Int) ≤ (s[0].toNat : Int)) (h1 : (s[0].toNat : Int) ≤ (57 : Int)) (h2 : (48 : Int) ≤ (s[1].toNat : Int)) (h3 : (s[1].toNat : Int) ≤ (57 : Int)) (hm : s.size ≤ 9223372036854775807) :
  Calls Tryz.prog 245 #[.string s, .bool b] w fun e w' => e = .returned (.tuple #[.int .i64 (((s[0].toNat : Int) - 48) * 10 + ((s[1].toNat : Int) - 48)), .string (s.extract 2 s.size), .nilIface]) ∧ Below w.heap.size w w' := by
 have hne := ba_ne (show 0 < s.size by omega)
 go_enter Tryz.func245, Tryz.ntmps245
 go_wp2
 all_goals (try go_quiet (fail))
 all_goals (try go_wp2)
 all_goals go_ret3
 all_goals exact ⟨rfl, by (repeat (first | exact Below.refl _ _ | (refine below_drewN ?_ _) | (refine Below.trans ?_ ((below_regrown _ _ _).mono (by simp <;> omega))) | (refine Below.drew ?_) | (refine Below.alloc ?_ (by simp <;> omega) _) | (refine Below.setCell ?_ (by simp <;> omega) _) | assumption))⟩
theorem skip_nil (v : ByteArray) (w : World) : Calls Tryz.prog 240 #[.string v, .string { data := #[] }] w fun e w' => e = .returned (.tuple #[.string v, .nilIface]) ∧ Below w.heap.size w w' := by
 go_enter Tryz.func240, Tryz.ntmps240
 go_wp2
 refine wp_loop_rounds 1 ?_
 rw [rounds_succ]
 go_wp2
 all_goals (try go_quiet (fail))
 all_goals (try go_wp2)
 all_goals go_ret2
 all_goals exact ⟨rfl, by (repeat (first | exact Below.refl _ _ | (refine below_drewN ?_ _) | (refine Below.trans ?_ ((below_regrown _ _ _).mono (by simp <;> omega))) | (refine Below.drew ?_) | (refine Below.alloc ?_ (by simp <;> omega) _) | (refine Below.setCell ?_ (by simp <;> omega) _) | assumption))⟩
theorem skip_one (v : ByteArray) (c : UInt8) (w : World) (h : 0 < v.size) (hc : v[0] = c) (hn : c.toNat ≠ 32) (hm : v.size ≤ 9223372036854775807) : Calls Tryz.prog 240 #[.string v, .string { data := #[c] }] w fun e w' => e = .returned (.tuple #[.string (v.extract 1 v.size), .nilIface]) ∧ Below w.heap.size w w' := by
 subst hc
 have hne := ba_ne h
 have hz : ((v.size : Int) == 0) = false := by simp; omega
 have hn' : ((v[0].toNat : Int) == 32) = false := by simp; omega
 go_enter Tryz.func240, Tryz.ntmps240
 go_wp2
 refine wp_loop_rounds 2 ?_
 rw [rounds_succ]
 go_wp2
 go_quiet (fail)
 go_wp2
 rw [rounds_succ]
 go_wp2
 all_goals go_ret2
 all_goals exact ⟨rfl, by (repeat (first | exact Below.refl _ _ | (refine below_drewN ?_ _) | (refine Below.trans ?_ ((below_regrown _ _ _).mono (by simp <;> omega))) | (refine Below.drew ?_) | (refine Below.alloc ?_ (by simp <;> omega) _) | (refine Below.setCell ?_ (by simp <;> omega) _) | assumption))⟩
theorem leading4 (a b c d : UInt8) (w : World) (a0 : (48 : Int) ≤ (a.toNat : Int)) (a1 : (a.toNat : Int) ≤ (57 : Int)) (b0 : (48 : Int) ≤ (b.toNat : Int)) (b1 : (b.toNat : Int) ≤ (57 : Int)) (c0 : (48 : Int) ≤ (c.toNat : Int)) (c1 : (c.toNat : Int) ≤ (57 : Int)) (d0 : (48 : Int) ≤ (d.toNat : Int)) (d1 : (d.toNat : Int) ≤ (57 : Int)) :
  Calls Tryz.prog 295 #[.string { data := #[a, b, c, d] }] w fun e w' => e = .returned (.tuple #[.int .u64 (((((((a.toNat : Int) - 48) * 10 + (b.toNat : Int)) - 48) * 10 + (c.toNat : Int)) - 48) * 10 + (d.toNat : Int) - 48), .string { data := #[] }, .nilIface]) ∧ Below w.heap.size w w' := by
 go_enter Tryz.func295, Tryz.ntmps295
 go_wp2
 refine wp_loop_rounds 5 ?_
 rw [rounds_succ]
 go_wp2
 repeat (rw [rounds_succ]; go_wp2)
 all_goals (try go_quiet (fail))
 all_goals (try go_wp2)
 all_goals go_ret3
 all_goals exact ⟨rfl, by (repeat (first | exact Below.refl _ _ | (refine below_drewN ?_ _) | (refine Below.trans ?_ ((below_regrown _ _ _).mono (by simp <;> omega))) | (refine Below.drew ?_) | (refine Below.alloc ?_ (by simp <;> omega) _) | (refine Below.setCell ?_ (by simp <;> omega) _) | assumption))⟩
theorem atoi4 (a b c d : UInt8) (w : World) (a0 : (48 : Int) ≤ (a.toNat : Int)) (a1 : (a.toNat : Int) ≤ (57 : Int)) (b0 : (48 : Int) ≤ (b.toNat : Int)) (b1 : (b.toNat : Int) ≤ (57 : Int)) (c0 : (48 : Int) ≤ (c.toNat : Int)) (c1 : (c.toNat : Int) ≤ (57 : Int)) (d0 : (48 : Int) ≤ (d.toNat : Int)) (d1 : (d.toNat : Int) ≤ (57 : Int)) :
  Calls Tryz.prog 242 #[.string { data := #[a, b, c, d] }] w fun e w' => e = .returned (.tuple #[.int .i64 (((((((a.toNat : Int) - 48) * 10 + (b.toNat : Int)) - 48) * 10 + (c.toNat : Int)) - 48) * 10 + (d.toNat : Int) - 48), .nilIface]) ∧ Below w.heap.size w w' := by
 have ha1 : ((a.toNat : Int) == 45) = false := by simp; omega
 have ha2 : ((a.toNat : Int) == 43) = false := by simp; omega
 go_enter Tryz.func242, Tryz.ntmps242
 go_wp2_with fail
 all_goals (try go_quiet (fail))
 go_wp2_with (go_at_call 295; refine (leading4 a b c d _ a0 a1 b0 b1 c0 c1 d0 d1).mono ?_; rintro e w' ⟨rfl, hb⟩)
 go_ret2
 exact ⟨rfl, by (repeat (first | exact Below.refl _ _ | (refine below_drewN ?_ _) | (refine Below.trans ?_ ((below_regrown _ _ _).mono (by simp <;> omega))) | (refine Below.drew ?_) | (refine Below.alloc ?_ (by simp <;> omega) _) | (refine Below.setCell ?_ (by simp <;> omega) _) | assumption))⟩
theorem atoi4v (a b c d : UInt8) (v : Int) (w : World) (hv : v = ((((((a.toNat : Int) - 48) * 10 + (b.toNat : Int)) - 48) * 10 + (c.toNat : Int)) - 48) * 10 + (d.toNat : Int) - 48) (a0 : (48 : Int) ≤ (a.toNat : Int)) (a1 : (a.toNat : Int) ≤ (57 : Int)) (b0 : (48 : Int) ≤ (b.toNat : Int)) (b1 : (b.toNat : Int) ≤ (57 : Int)) (c0 : (48 : Int) ≤ (c.toNat : Int)) (c1 : (c.toNat : Int) ≤ (57 : Int)) (d0 : (48 : Int) ≤ (d.toNat : Int)) (d1 : (d.toNat : Int) ≤ (57 : Int)) :
  Calls Tryz.prog 242 #[.string { data := #[a, b, c, d] }] w fun e w' => e = .returned (.tuple #[.int .i64 v, .nilIface]) ∧ Below w.heap.size w w' := by
 subst hv
 exact atoi4 a b c d w a0 a1 b0 b1 c0 c1 d0 d1
theorem getnum2v (s : ByteArray) (b : Bool) (p q : UInt8) (v : Int) (w : World) (h : 2 ≤ s.size) (hp : s[0] = p) (hq : s[1] = q) (hv : v = ((p.toNat : Int) - 48) * 10 + ((q.toNat : Int) - 48)) (h0 : (48 : Int) ≤ (p.toNat : Int)) (h1 : (p.toNat : Int) ≤ (57 : Int)) (h2 : (48 : Int) ≤ (q.toNat : Int)) (h3 : (q.toNat : Int) ≤ (57 : Int)) (hm : s.size ≤ 9223372036854775807) :
  Calls Tryz.prog 245 #[.string s, .bool b] w fun e w' => e = .returned (.tuple #[.int .i64 v, .string (s.extract 2 s.size), .nilIface]) ∧ Below w.heap.size w w' := by
 subst hv hp hq
 exact (getnum2 s b w h h0 h1 h2 h3 hm)
end Go.Proofs.YtcllaplddebilaaGreatDoor
end
section
namespace Go.Proofs.YtcllaplddebilaaGreatDoor
open Go.RowKit Go.Sort
attribute [local go_sem] cell?_grow frozen?_grow cell?_redrawn frozen?_redrawn size_redrawn size_grow ba_get ba_extract
attribute [local simp] size_redrawn
open Go.Lib Go.Proofs.YtcllaplddebilaaGreatDoorW.PrintWords Go.Proofs.YtcllaplddebilaaGreatDoorW.PrintLast Go.Proofs.YtcllaplddebilaaGreatDoorW.PrintMore
def momV (has : Bool) (n : Int) : Value := if has then .agg #[.int .i64 (n + 62135596800), .int .i32 0, .string { data := #[85, 84, 67] }, .int .i64 0] else .agg #[.int .i64 0, .int .i32 0, .string { data := #[] }, .int .i64 0]
theorem mom_yes (n : Int) (w : World) (h0 : -1000000000000000 ≤ n) (h1 : n ≤ 1000000000000000) : Calls Tryz.prog 71 #[.bool true, .int .i64 n] w fun e w' => e = .returned (.agg #[.int .i64 (n + 62135596800), .int .i32 0, .string { data := #[85, 84, 67] }, .int .i64 0]) ∧ Below w.heap.size w w' := by
 go_enter Tryz.func71, Tryz.ntmps71
 go_wp2_with fail
 refine (unixN_any n _ h0 h1).mono ?_
 rintro e w1 ⟨rfl, hb⟩
 have hB : Below w.heap.size w w1 := below_step (below_alloc (Below.refl _ _) _) hb
 have hz := below_blk hb (new_blk w (.cells #[.int .i64 0, .int .i32 0, .string { data := #[] }, .int .i64 0] 70))
 have c0 := (cell_blk hz 0).trans rfl
 have c1 := (cell_blk hz 1).trans rfl
 have c2 := (cell_blk hz 2).trans rfl
 have c3 := (cell_blk hz 3).trans rfl
 have f0 : ∀ o, w1.frozen? ⟨w.heap.size, o, none⟩ = false := fun o => frozen_blk hz o (by omega)
 have HZ := hI hz
 clear hz hb
 go_wp2
 refine bodyPost_ret (v := .agg #[.int .i64 (n + 62135596800), .int .i32 0, .string { data := #[85, 84, 67] }, .int .i64 0]) (results_cell_row rfl _ _ w.heap.size 70 #[.int .i64 (n + 62135596800), .int .i32 0, .string { data := #[85, 84, 67] }, .int .i64 0] (0, 0) _ rfl (set_blk (set_blk (set_blk (set_blk HZ.out 0 _) 1 _) 2 _) 3 _) Tryz.underlying70 rfl (by kernel_rfl)) rfl ⟨rfl, ?_⟩
 exact (((hB.setCell (by simp) _).setCell (by simp) _).setCell (by simp) _).setCell (by simp) _
theorem mom_no (n : Int) (w : World) : Calls Tryz.prog 71 #[.bool false, .int .i64 n] w fun e w' => e = .returned (.agg #[.int .i64 0, .int .i32 0, .string { data := #[] }, .int .i64 0]) ∧ Below w.heap.size w w' := by
 go_enter Tryz.func71, Tryz.ntmps71
 go_wp2
 refine bodyPost_ret (v := .agg #[.int .i64 0, .int .i32 0, .string { data := #[] }, .int .i64 0]) (results_cell_row rfl _ _ w.heap.size 70 #[.int .i64 0, .int .i32 0, .string { data := #[] }, .int .i64 0] (0, 0) _ rfl (new_blk w _) Tryz.underlying70 rfl (by kernel_rfl)) rfl ⟨rfl, (Below.refl _ _).alloc (Nat.le_refl _) _⟩
theorem moment (has : Bool) (n : Int) (w : World) (h0 : -1000000000000000 ≤ n) (h1 : n ≤ 1000000000000000) : Calls Tryz.prog 71 #[.bool has, .int .i64 n] w fun e w' => e = .returned (momV has n) ∧ Below w.heap.size w w' := by
 cases has
 ·exact mom_no n w
 ·exact mom_yes n w h0 h1
def TxtNew (w : World) (lo hi : Nat) (q : Option Addr) (x : KT) : Prop := match x with
 | none => q = none
 | some t => ∃ b : Nat, q = some ⟨b, 0, none⟩ ∧ lo ≤ b ∧ b < hi ∧ w.heap[b]? = some (.cells #[.string t.1, .bool t.2] 229)
def TextPost (w : World) (x : KT) (e : Ending) (w' : World) : Prop := ∃ q, e = .returned (.pointer q) ∧ TxtNew w' w.heap.size w'.heap.size q x ∧ Below w.heap.size w w'
theorem textOf (p : Option Addr) (x : KT) (w : World) (h : TxtAt w p x) : Calls Tryz.prog 72 #[.pointer p] w (TextPost w x) := by
 cases x with
 | none =>
  obtain rfl : p = none := h
  go_enter Tryz.func72, Tryz.ntmps72
  go_wp2
  go_ret
  exact ⟨none, rfl, rfl, by (repeat (first | exact Below.refl _ _ | (refine below_drewN ?_ _) | (refine Below.trans ?_ ((below_regrown _ _ _).mono (by simp <;> omega))) | (refine Below.drew ?_) | (refine Below.alloc ?_ (by simp <;> omega) _) | (refine Below.setCell ?_ (by simp <;> omega) _) | assumption))⟩
 | some t =>
  obtain ⟨b, o, rfl, h1, h2⟩ := h
  go_enter Tryz.func72, Tryz.ntmps72
  go_wp2
  refine start_ (n := 11) (S := fun W => W.cell? ⟨b, o, none⟩ = some (.string t.1) ∧ W.cell? ⟨b, o + 1, none⟩ = some (.bool t.2)) (ds := [9]) (bM 11 0) (by kernel_rfl) rfl (by kernel_rfl) ⟨h1, h2⟩ (fun hHeld => ?_)
  refine pU 0 11 1 (some 5) rfl rfl (by kernel_rfl) rfl (fun _ => by go_simp; with_reducible rfl) (by simp only [sW]; rfl) ?_
  refine pU 1 11 3 (some 6) rfl rfl (by kernel_rfl) rfl (fun _ => by go_simp; with_reducible rfl) (by simp only [sW]; rfl) ?_
  refine pU 2 11 7 (some 7) rfl rfl (by kernel_rfl) rfl (fun _ => by go_simp; with_reducible rfl) (by simp only [sW]; rfl) ?_
  refine tA 3 11 15 (some 8) rfl rfl (by kernel_rfl) rfl (fun _ ⟨s0, s1⟩ => by go_simp; with_reducible rfl) hHeld (by simp only [sW]; rfl) ?_
  refine pU 4 11 31 (some 9) rfl rfl (by kernel_rfl) rfl (fun _ => by go_simp; with_reducible rfl) (by simp only [sW]; rfl) ?_
  refine pU 5 11 63 (some 10) rfl rfl (by kernel_rfl) rfl (fun _ => by go_simp; with_reducible rfl) (by simp only [sW]; rfl) ?_
  refine pU 6 11 127 (some 11) rfl rfl (by kernel_rfl) rfl (fun _ => by go_simp; with_reducible rfl) (by simp only [sW]; rfl) ?_
  refine tA 7 11 255 (some 12) rfl rfl (by kernel_rfl) rfl (fun _ ⟨s0, s1⟩ => by go_simp; with_reducible rfl) hHeld (by simp only [sW]; rfl) ?_
  refine pU 8 11 511 (some 13) rfl rfl (by kernel_rfl) rfl (fun _ => by go_simp; with_reducible rfl) (by simp only [sW]; rfl) ?_
  refine lA 9 11 1023 (some 14) rfl rfl (by kernel_rfl) (by decide) (fun K hK => ?_)
  refine value_ (v := ?_) (w1 := ?_) (by rfl) rfl ?_ ?_; rotate_left 2; (go_simp; first | rfl | (constructor <;> rfl))
  refine hK.out _ _ ?_
  clear hK K
  refine norm_ (by show Act.put _ (some 14) _ = _; simp only [sW]; rfl) ?_
  refine pU 10 11 2047 (some 2) rfl rfl (by kernel_rfl) rfl (fun _ => by go_simp; with_reducible rfl) (by simp only [sW]; rfl) ?_
  refine done_ (by kernel_rfl) ?_
  go_wp2
  go_ret
  exact ⟨_, rfl, ⟨w.heap.size, rfl, Nat.le_refl _, by simp, new_blk w _⟩, by (repeat (first | exact Below.refl _ _ | (refine below_drewN ?_ _) | (refine Below.trans ?_ ((below_regrown _ _ _).mono (by simp <;> omega))) | (refine Below.drew ?_) | (refine Below.alloc ?_ (by simp <;> omega) _) | (refine Below.setCell ?_ (by simp <;> omega) _) | assumption))⟩
def momS (has : Bool) (n : Int) : Int := if has then n + 62135596800 else 0
def momL (has : Bool) : ByteArray := if has then { data := #[85, 84, 67] } else { data := #[] }
abbrev momC (has : Bool) (n : Int) : List Value := [.int .i64 (momS has n), .int .i32 0, .string (momL has), .int .i64 0]
theorem momV_eq (has : Bool) (n : Int) : momV has n = .agg #[.int .i64 (momS has n), .int .i32 0, .string (momL has), .int .i64 0] := by cases has <;> rfl
def kMom : Kd (Bool × Int) where
 sz := 4
 E := []
 K := fun _ x cs => cs = momC x.1 x.2
 M := fun _ _ _ x cs => cs = momC x.1 x.2
 K_len := by rintro _ ⟨a, b⟩ _ rfl; rfl
 K_one := by
  rintro _ ⟨a, b⟩ _ rfl u hu
  simp at hu
  rcases hu with rfl | rfl | rfl | rfl <;> rfl
 K_below := fun _ h => h
 K_of_M := fun h => h
 M_mono := fun _ h => h
 M_bound := fun h => h
 M_move := fun _ h => h
 M_lower := fun _ h => h
def TmNew (w : World) (base : Nat) (ok : Nat → Prop) (q : Option Addr) (x : KT) : Prop := match x with
 | none => q = none
 | some t => ∃ b : Nat, q = some ⟨b, 0, none⟩ ∧ base ≤ b ∧ ok b ∧ w.heap[b]? = some (.cells #[.string t.1, .bool t.2] 229)
def TmAt0 (w : World) (p : Option Addr) (x : KT) : Prop := match x with
 | none => p = none
 | some t => ∃ b, p = some ⟨b, 0, none⟩ ∧ w.cell? ⟨b, 0, none⟩ = some (.string t.1) ∧ w.cell? ⟨b, 1, none⟩ = some (.bool t.2)
def oTxt : Kd KT where
 sz := 1
 E := [229]
 K := fun w x cs => ∃ p, cs = [.pointer p] ∧ TmAt0 w p x
 M := fun w base ok x cs => ∃ p, cs = [.pointer p] ∧ TmNew w base ok p x
 K_len := by rintro w x cs ⟨p, rfl, _⟩; rfl
 K_one := by
  rintro w x cs ⟨p, rfl, _⟩ u hu
  rw [List.mem_singleton.1 hu]
  rfl
 K_below := by
  rintro w w1 x cs hb ⟨p, rfl, h⟩
  refine ⟨p, rfl, ?_⟩
  cases x with
  | none => exact h
  | some t =>
   obtain ⟨b, h0, h1, h2⟩ := h
   exact ⟨b, h0, pw_cell_below hb h1, pw_cell_below hb h2⟩
 K_of_M := by
  rintro w base ok x cs ⟨p, rfl, h⟩
  refine ⟨p, rfl, ?_⟩
  cases x with
  | none => exact h
  | some t =>
   obtain ⟨b, h0, h1, h2, h3⟩ := h
   exact ⟨b, h0, (cell_blk h3 0).trans rfl, (cell_blk h3 1).trans rfl⟩
 M_mono := by
  rintro w base ok ok' x cs hm ⟨p, rfl, h⟩
  refine ⟨p, rfl, ?_⟩
  cases x with
  | none => exact h
  | some t =>
   obtain ⟨b, h0, h1, h2, h3⟩ := h
   exact ⟨b, h0, h1, hm b h2, h3⟩
 M_bound := by
  rintro w base ok x cs ⟨p, rfl, h⟩
  refine ⟨p, rfl, ?_⟩
  cases x with
  | none => exact h
  | some t =>
   obtain ⟨b, h0, h1, h2, h3⟩ := h
   exact ⟨b, h0, h1, ⟨h2, h1, lt_blk h3, _, List.mem_singleton.2 rfl, _, h3⟩, h3⟩
 M_move := by
  rintro w w1 base ok x cs hm ⟨p, rfl, h⟩
  refine ⟨p, rfl, ?_⟩
  cases x with
  | none => exact h
  | some t =>
   obtain ⟨b, h0, h1, h2, h3⟩ := h
   exact ⟨b, h0, h1, h2, (hm b h2).trans h3⟩
 M_lower := by
  rintro w base base' ok x cs hl ⟨p, rfl, h⟩
  refine ⟨p, rfl, ?_⟩
  cases x with
  | none => exact h
  | some t =>
   obtain ⟨b, h0, h1, h2, h3⟩ := h
   exact ⟨b, h0, Nat.le_trans hl h1, h2, h3⟩
def oPa : Kd KPa := Kd.iso (Kd.pair Kd.string (Kd.pair Kd.bool oTxt)) (fun x => (x.name, x.absent, x.text))
def oPr : Kd KPr := Kd.iso (Kd.pair Kd.string (Kd.pair Kd.bool (Kd.pair kMom (Kd.pair kMom (Kd.pair oTxt (Kd.slice 170 oPa)))))) (fun x => (x.name, x.absent, (x.has, x.st), (x.hasEnd, x.en), x.text, x.params))
def FoCo (d : Kd KCo) : Kd KCo := Kd.iso (Kd.pair Kd.string (Kd.pair Kd.bool (Kd.pair kMom (Kd.pair kMom (Kd.pair (Kd.slice 168 oPr) (Kd.slice 91 d)))))) (fun x => (x.name, x.absent, (x.has, x.st), (x.hasEnd, x.en), x.props, x.comps))
abbrev eCo : List Nat := [91, 168, 170, 229]
theorem monoFo : Kd.Mono FoCo := Kd.mono_iso _ (Kd.mono_pair (Kd.mono_const _) (Kd.mono_pair (Kd.mono_const _) (Kd.mono_pair (Kd.mono_const _) (Kd.mono_pair (Kd.mono_const _) (Kd.mono_pair (Kd.mono_const _) (Kd.mono_slice 91 Kd.mono_id))))))
theorem subFo : Kd.Sub FoCo eCo := Kd.sub_iso _ (Kd.sub_pair (Kd.sub_const _ (by decide)) (Kd.sub_pair (Kd.sub_const _ (by decide)) (Kd.sub_pair (Kd.sub_const _ (by decide)) (Kd.sub_pair (Kd.sub_const _ (by decide)) (Kd.sub_pair (Kd.sub_const _ (by decide)) (Kd.sub_slice 91 (by decide) Kd.sub_id))))))
theorem szFo : ∀ n, (Kd.upto FoCo 12 eCo n).sz = 12 := Kd.upto_sz (fun _ => rfl)
def oCo : Kd KCo := Kd.fix FoCo 12 eCo szFo (Kd.upto_E subFo)
theorem oPa_open {w : World} {x : KPa} {cs : List Value} (h : oPa.K w x cs) : ∃ p, cs = [.string x.name, .bool x.absent, .pointer p] ∧ TmAt0 w p x.text := by
 obtain ⟨_, _, rfl, rfl, ⟨_, _, rfl, rfl, ⟨p, rfl, h⟩⟩⟩ := h
 exact ⟨p, rfl, h⟩
theorem oPr_open {w : World} {x : KPr} {cs : List Value} (h : oPr.K w x cs) : ∃ p A c, cs = [.string x.name, .bool x.absent] ++ (momC x.has x.st ++ (momC x.hasEnd x.en ++ [.pointer p, .slice A x.params.length c])) ∧ TmAt0 w p x.text ∧ x.params.length ≤ c ∧ oPa.C w A x.params.length x.params := by
 obtain ⟨_, _, rfl, rfl, ⟨_, _, rfl, rfl, ⟨_, _, rfl, rfl, ⟨_, _, rfl, rfl, ⟨_, _, rfl, ⟨p, rfl, hp⟩, ⟨A, c, rfl, hl, hr⟩⟩⟩⟩⟩⟩ := h
 exact ⟨p, A, c, rfl, hp, hl, hr⟩
theorem oCo_open {w : World} {x : KCo} {cs : List Value} (h : oCo.K w x cs) : ∃ A c A2 c2, cs = [.string x.name, .bool x.absent] ++ (momC x.has x.st ++ (momC x.hasEnd x.en ++ [.slice A x.props.length c, .slice A2 x.comps.length c2])) ∧
  x.props.length ≤ c ∧ oPr.C w A x.props.length x.props ∧ x.comps.length ≤ c2 ∧ oCo.C w A2 x.comps.length x.comps := by
 obtain ⟨n, h⟩ := h
 cases n with
 | zero => exact h.elim
 | succ n =>
  obtain ⟨_, _, rfl, rfl, ⟨_, _, rfl, rfl, ⟨_, _, rfl, rfl, ⟨_, _, rfl, rfl, ⟨_, _, rfl, ⟨A, c, rfl, hl, hr⟩, ⟨A2, c2, rfl, hl2, hr2⟩⟩⟩⟩⟩⟩ := h
  exact ⟨A, c, A2, c2, rfl, hl, hr, hl2, Kd.fix_C hr2⟩
theorem oPa_mkM {w : World} {base : Nat} {ok : Nat → Prop} {x : KPa} {p : Option Addr} (h : TmNew w base ok p x.text) : oPa.M w base ok x [.string x.name, .bool x.absent, .pointer p] :=
 ⟨[_], [_, _], rfl, rfl, ⟨[_], [_], rfl, rfl, ⟨p, rfl, h⟩⟩⟩
theorem oPr_mkM {w : World} {base : Nat} {ok : Nat → Prop} {x : KPr} {p : Option Addr} {v : Value} (h : TmNew w base ok p x.text) (hv : oPa.R 170 w base ok v x.params) :
  oPr.M w base ok x ([.string x.name, .bool x.absent] ++ (momC x.has x.st ++ (momC x.hasEnd x.en ++ [.pointer p, v]))) :=
 ⟨[_], _, rfl, rfl, ⟨[_], _, rfl, rfl, ⟨_, _, rfl, rfl, ⟨_, _, rfl, rfl, ⟨[_], [_], rfl, ⟨p, rfl, h⟩, ⟨v, rfl, hv⟩⟩⟩⟩⟩⟩
theorem oCo_mkM {w : World} {base : Nat} {ok : Nat → Prop} {x : KCo} {v v2 : Value} (hv : oPr.R 168 w base ok v x.props) (hv2 : oCo.R 91 w base ok v2 x.comps) :
  oCo.M w base ok x ([.string x.name, .bool x.absent] ++ (momC x.has x.st ++ (momC x.hasEnd x.en ++ [v, v2]))) := by
 obtain ⟨n, hn⟩ := Kd.fix_R_back monoFo hv2
 exact ⟨n + 1, [_], _, rfl, rfl, ⟨[_], _, rfl, rfl, ⟨_, _, rfl, rfl, ⟨_, _, rfl, rfl, ⟨[_], [_], rfl, ⟨v, rfl, hv⟩, ⟨v2, rfl, hn⟩⟩⟩⟩⟩⟩
theorem setAll_blk (b : Nat) (e : TypeId) (fz : Nat × Nat) : ∀ (vs : List Value) (o : Nat) (w : World) (cur : Array Value), w.heap[b]? = some (.cells cur e fz) → o + vs.length ≤ cur.size →
  ∃ cur', (w.setCells b o vs).heap[b]? = some (.cells cur' e fz) ∧ cur'.size = cur.size ∧ ∀ j, cur'[j]? = if o ≤ j ∧ j < o + vs.length then vs[j - o]? else cur[j]?
 | [], o, w, cur, h, _ => ⟨cur, h, rfl, fun j => by rw [if_neg (by simp only [List.length_nil]; omega)]⟩
 | v :: r, o, w, cur, h, hl => by
  simp only [List.length_cons] at hl
  obtain ⟨cur', h1, h2, h3⟩ := setAll_blk b e fz r (o + 1) (w.setCell ⟨b, o, none⟩ v) (cur.setIfInBounds o v) (set_blk h o v) (by simp; omega)
  refine ⟨cur', h1, by simpa using h2, fun j => ?_⟩
  rw [h3 j]
  by_cases hj : j = o
  ·subst hj
   rw [if_neg (by omega), if_pos (by simp), Array.getElem?_setIfInBounds_self_of_lt (by omega)]
   simp
  ·by_cases hk : o + 1 ≤ j ∧ j < o + 1 + r.length
   ·rw [if_pos hk, if_pos (by simp; omega)]
    have : j - o = (j - (o + 1)) + 1 := by omega
    rw [this, List.getElem?_cons_succ]
   ·rw [if_neg hk, if_neg (by simp; omega)]
    rw [Array.getElem?_setIfInBounds_ne (by omega)]
theorem store_all {oi : Oper} {a : Act} {w : World} (t : TypeId) (p x : Operand) (g : Nat) (e : TypeId) (cur : Array Value) (u : Value) (seg : List Value) (ho : oi.op = .store t p x) (hp : a.eval p = .pointer (some ⟨g, 0, none⟩)) (hx : a.eval x = u)
  (hu : u.cells.toList = seg) (hh : w.heap[g]? = some (.cells cur e (0, 0))) (ht : (Tryz.prog.info? t).map (·.size) = some seg.length) (hl : seg.length = cur.size) (h1 : ∀ q ∈ seg, q.oneCell' = true) :
  ∃ w', (execOp a.eval oi).run Tryz.prog w = .ok .skip w' ∧ w'.heap[g]? = some (.cells seg.toArray e (0, 0)) ∧ (∀ k, k ≠ g → w'.heap[k]? = w.heap[k]?) ∧ w'.heap.size = w.heap.size ∧ ∀ B w0, Below B w0 w → B ≤ g → Below B w0 w' := by
 have hrun := run_store_run (P := Tryz.prog) (o := 0) t u seg hh hu ht (by omega) h1
 refine ⟨w.setCells g 0 seg, ?_, ?_, fun k hk => setCells_far seg _ k hk, ?_, fun B w0 hB hg => ?_⟩
 ·unfold execOp
  simp only [ho, hp, hx, Sem.run_bind, Sem.run_pure, Result.andThen_ok, hrun]
 ·obtain ⟨cur', c1, c2, c3⟩ := setAll_blk g e (0, 0) seg 0 w cur hh (by omega)
  rw [c1]
  have : cur' = seg.toArray := by
   apply Array.ext_getElem?
   intro j
   rw [c3 j]
   by_cases hj : j < seg.length
   ·rw [if_pos (by omega)]; simp
   ·rw [if_neg (by omega), Array.getElem?_eq_none (by omega)]; simp; omega
  rw [this]
 ·have := World.keptBut_setCells g (may := fun _ => True) seg 0 w (fun _ _ => trivial)
  have h2 : ∀ (vs : List Value) (o : Nat) (w : World), (w.setCells g o vs).heap.size = w.heap.size := by
   intro vs
   induction vs with
   | nil => intros; rfl
   | cons v r ih => intro o w; rw [World.setCells, ih]; simp [World.setCell]
  exact h2 _ _ _
 ·have h2 : ∀ (vs : List Value) (o : Nat) (w : World), Below B w0 w → Below B w0 (w.setCells g o vs) := by
   intro vs
   induction vs with
   | nil => intro o w h; exact h
   | cons v r ih => intro o w h; exact ih _ _ (h.setCell (by simpa using hg) v)
  exact h2 _ _ _ hB
theorem store_step {ops : Array Oper} {Q : Exit → Act → World → Prop} {K : Act → World → Prop} {oi : Oper} {a : Act} {w : World} (t : TypeId) (p x : Operand) (g : Nat) (e : TypeId) (cur : Array Value) (u : Value) (seg : List Value)
  (hw : Region.wanted oi (yielded ops a.tmps) = true) (hN : oi.dst = none) (ho : oi.op = .store t p x) (hp : a.eval p = .pointer (some ⟨g, 0, none⟩)) (hx : a.eval x = u)
  (hu : u.cells.toList = seg) (hh : w.heap[g]? = some (.cells cur e (0, 0))) (ht : (Tryz.prog.info? t).map (·.size) = some seg.length) (hl : seg.length = cur.size) (h1 : seg.all (fun q => q.oneCell') = true)
  (h : ∀ w' : World, w'.heap[g]? = some (.cells seg.toArray e (0, 0)) → (∀ k, k ≠ g → w'.heap[k]? = w.heap[k]?) → w'.heap.size = w.heap.size → (∀ B w0, Below B w0 w → B ≤ g → Below B w0 w') → K a w') :
  if Region.wanted oi (yielded ops a.tmps) = true then Oper.wp Tryz.prog oi a w K Q else K (a.put none undef) w := by
 obtain ⟨w', hrun, h2, h3, h4, h5⟩ := store_all t p x g e cur u seg ho hp hx hu hh ht hl (fun q hq => List.all_eq_true.1 h1 q hq)
 exact skip_ hw hN hrun (h w' h2 h3 h4 h5)
theorem info_pf : (Tryz.prog.info? 170).map (fun i => (i.zero, i.size, i.bytes)) = some (some (.agg #[.string { data := #[] }, .bool false, .pointer none]), 3, 32) := by kernel_rfl
theorem info_prf : (Tryz.prog.info? 168).map (fun i => (i.zero, i.size, i.bytes)) = some (some (.agg #[.string { data := #[] }, .bool false, .int .i64 0, .int .i32 0, .string { data := #[] }, .int .i64 0, .int .i64 0, .int .i32 0, .string { data := #[] }, .int .i64 0, .pointer none, .slice none 0 0]), 12, 136) := by kernel_rfl
theorem info_cf : (Tryz.prog.info? 91).map (fun i => (i.zero, i.size, i.bytes)) = some (some (.agg #[.string { data := #[] }, .bool false, .int .i64 0, .int .i32 0, .string { data := #[] }, .int .i64 0, .int .i64 0, .int .i32 0, .string { data := #[] }, .int .i64 0, .slice none 0 0, .slice none 0 0]), 12, 152) := by kernel_rfl
theorem store_plain {ops : Array Oper} {rest : List Oper} {Q : Exit → Act → World → Prop} {oi : Oper} {a : Act} {w : World} (t : TypeId) (p x : Operand) (g : Nat) (e : TypeId) (cur : Array Value) (u : Value) (seg : List Value)
  (hgd : oi.guard = none) (hN : oi.dst = none) (ho : oi.op = .store t p x) (hp : a.eval p = .pointer (some ⟨g, 0, none⟩)) (hx : a.eval x = u)
  (hu : u.cells.toList = seg) (hh : w.heap[g]? = some (.cells cur e (0, 0))) (ht : (Tryz.prog.info? t).map (·.size) = some seg.length) (hl : seg.length = cur.size) (h1 : seg.all (fun q => q.oneCell') = true)
  (h : ∀ w' : World, w'.heap[g]? = some (.cells seg.toArray e (0, 0)) → (∀ k, k ≠ g → w'.heap[k]? = w.heap[k]?) → w'.heap.size = w.heap.size → (∀ B w0, Below B w0 w → B ≤ g → Below B w0 w') → wpList Tryz.prog ops Q rest a w') :
  wpList Tryz.prog ops Q (oi :: rest) a w := by
 obtain ⟨w', hrun, h2, h3, h4, h5⟩ := store_all t p x g e cur u seg ho hp hx hu hh ht hl (fun q hq => List.all_eq_true.1 h1 q hq)
 refine wpList_plain hgd fun K hK => ?_
 unfold Oper.wp
 rw [hrun]
 show K (a.put oi.dst undef) _
 rw [hN]
 exact hK a _ (h w' h2 h3 h4 h5)
end Go.Proofs.YtcllaplddebilaaGreatDoor
end
section
namespace Go.Proofs.YtcllaplddebilaaGreatDoor
open Go.RowKit Go.Sort
attribute [local go_sem] cell?_grow frozen?_grow cell?_redrawn frozen?_redrawn size_redrawn size_grow ba_get ba_extract
attribute [local simp] size_redrawn
section
variable {P : Program} {w : World} {mty kt et : TypeId} {r clock : Nat} {es : Array MapEntry} {s : ByteArray}
def mfind (es : Array MapEntry) (s : ByteArray) : Option (Option (Nat × Value)) := Instr.findNow .string (.string s) es.toList 0
theorem lookup_miss (c : Bool) (z : Value) (hm : P.underlying mty = some (.map kt et)) (hk : P.underlying kt = some .string) (hb : w.heap[r]? = some (.map es clock)) (hf : mfind es s = some none) (hz : (zeroValue et).run P w = .ok z w) :
  (Instr.lookup mty (.map (some r)) (.string s) c).run P w = .ok (if c then .tuple #[z, .bool false] else z) w := by
 have hc := MapKept.run_checkKey (P := P) (w := w) (k := .string s) hk (by simp [MapKept.IsKey]) es.isEmpty 9999
 have hf2 := MapKept.run_findKey (P := P) (w := w) hk hf
 simp [Instr.lookup, run_underlying hm, MapKept.run_getObj_map hb, hc, hf2, hz, Result.andThen]
theorem lookup_hit (c : Bool) (i : Nat) (v : Value) (hm : P.underlying mty = some (.map kt et)) (hk : P.underlying kt = some .string) (hb : w.heap[r]? = some (.map es clock)) (hf : mfind es s = some (some (i, v))) :
  (Instr.lookup mty (.map (some r)) (.string s) c).run P w = .ok (if c then .tuple #[v, .bool true] else v) w := by
 have hc := MapKept.run_checkKey (P := P) (w := w) (k := .string s) hk (by simp [MapKept.IsKey]) es.isEmpty 9999
 have hf2 := MapKept.run_findKey (P := P) (w := w) hk hf
 simp [Instr.lookup, run_underlying hm, MapKept.run_getObj_map hb, hc, hf2, Result.andThen]
theorem update_miss (v : Value) (hm : P.underlying mty = some (.map kt et)) (hk : P.underlying kt = some .string) (hb : w.heap[r]? = some (.map es clock)) (hf : mfind es s = some none) :
  (Instr.mapUpdate mty (.map (some r)) (.string s) v).run P w = .ok () { w with heap := w.heap.setIfInBounds r (.map (es.push { key := .string s, val := v, born := clock }) (clock + 1)) } := by
 have hc := MapKept.run_checkKey (P := P) (w := w) (k := .string s) hk (by simp [MapKept.IsKey]) false 9999
 have hf2 := MapKept.run_findKey (P := P) (w := w) hk hf
 simp [Instr.mapUpdate, run_underlying hm, MapKept.run_getObj_map hb, hc, hf2, MapKept.run_setObj_map _ hb, Result.andThen]
end
end Go.Proofs.YtcllaplddebilaaGreatDoor
end
section
namespace Go.Proofs.YtcllaplddebilaaGreatDoor
open Go.RowKit Go.Sort
attribute [local go_sem] cell?_grow frozen?_grow cell?_redrawn frozen?_redrawn size_redrawn size_grow ba_get ba_extract
attribute [local simp] size_redrawn
open Go.MapKept
structure MOk (es : Array MapEntry) (f : ByteArray → Option Value) : Prop where
 keys : ∀ x ∈ es.toList, IsKey .string x.key
 non : ∀ s, f s = none → ∀ x ∈ es.toList, x.key ≠ .string s
 has : ∀ s v, f s = some v → ∃ (i : Nat) (e : MapEntry), es.toList[i]? = some e ∧ e.key = .string s ∧ e.val = v
 uniq : ∀ (i j : Nat) (a b : MapEntry), es.toList[i]? = some a → es.toList[j]? = some b → a.key = b.key → i = j
def MapF (w : World) (r : Nat) (f : ByteArray → Option Value) : Prop := ∃ es clock, w.heap[r]? = some (.map es clock) ∧ MOk es f
def upd (f : ByteArray → Option Value) (s : ByteArray) (v : Value) : ByteArray → Option Value := fun t => if t = s then some v else f t
theorem MapF.empty {w : World} {r : Nat} {clock : Nat} (h : w.heap[r]? = some (.map #[] clock)) : MapF w r (fun _ => none) :=
 ⟨#[], clock, h, ⟨by simp, by simp, by simp, by simp⟩⟩
theorem MapF.of_heap {w w' : World} {r : Nat} {f : ByteArray → Option Value} (h : MapF w r f) (e : w'.heap[r]? = w.heap[r]?) : MapF w' r f := by
 obtain ⟨es, c, hb, hm⟩ := h
 exact ⟨es, c, e.trans hb, hm⟩
theorem MapF.lt {w : World} {r : Nat} {f : ByteArray → Option Value} (h : MapF w r f) : r < w.heap.size := by
 obtain ⟨es, c, hb, hm⟩ := h
 exact lt_blk hb
section
variable {P : Program} {w : World} {mty kt et : TypeId} {r : Nat} {f : ByteArray → Option Value} {s : ByteArray}
theorem MOk.find {es : Array MapEntry} (h : MOk es f) (s : ByteArray) : (f s = none ∧ mfind es s = some none) ∨ ∃ (i : Nat) (v : Value), f s = some v ∧ mfind es s = some (some (i, v)) ∧ ∃ e : MapEntry, es.toList[i]? = some e ∧ e.key = .string s := by
 rcases findNow_spec (d := .string) (k := .string s) (by simp [IsKey]) es.toList 0 h.keys with ⟨h1, h2⟩ | ⟨j, e, h1, h2, h3⟩
 ·cases hf : f s with
  | none => exact .inl ⟨rfl, h1⟩
  | some v =>
   obtain ⟨i, e, hi, hk, _⟩ := h.has s v hf
   exact absurd hk (h2 e (List.mem_of_getElem? hi))
 ·cases hf : f s with
  | none => exact absurd h3 (h.non s hf e (List.mem_of_getElem? h2))
  | some v =>
   obtain ⟨i, e', hi, hk, hv⟩ := h.has s v hf
   have : i = j := h.uniq i j e' e hi h2 (hk.trans h3.symm)
   subst this
   rw [hi] at h2
   injection h2 with h2
   subst h2
   refine .inr ⟨i, v, rfl, ?_, e', hi, hk⟩
   have h1' := h1
   rw [Nat.zero_add, hv] at h1'
   exact h1'
theorem MapF.get (h : MapF w r f) {v : Value} (hf : f s = some v) (c : Bool) (hm : P.underlying mty = some (.map kt et)) (hk : P.underlying kt = some .string) :
  (Instr.lookup mty (.map (some r)) (.string s) c).run P w = .ok (if c then .tuple #[v, .bool true] else v) w := by
 obtain ⟨es, cl, hb, ho⟩ := h
 rcases ho.find s with ⟨h1, _⟩ | ⟨i, v', h1, h2, _⟩
 ·rw [h1] at hf; cases hf
 ·rw [h1] at hf
  injection hf with hf
  subst hf
  exact lookup_hit c i v' hm hk hb h2
theorem MapF.miss (h : MapF w r f) (hf : f s = none) (c : Bool) (z : Value) (hm : P.underlying mty = some (.map kt et)) (hk : P.underlying kt = some .string) (hz : (zeroValue et).run P w = .ok z w) :
  (Instr.lookup mty (.map (some r)) (.string s) c).run P w = .ok (if c then .tuple #[z, .bool false] else z) w := by
 obtain ⟨es, cl, hb, ho⟩ := h
 rcases ho.find s with ⟨_, h2⟩ | ⟨i, v', h1, _, _⟩
 ·exact lookup_miss c z hm hk hb h2 hz
 ·rw [h1] at hf; cases hf
theorem MapF.put (h : MapF w r f) (s : ByteArray) (v : Value) (hm : P.underlying mty = some (.map kt et)) (hk : P.underlying kt = some .string) :
  ∃ o, (Instr.mapUpdate mty (.map (some r)) (.string s) v).run P w = .ok () { w with heap := w.heap.setIfInBounds r o } ∧ ∀ w' : World, w'.heap[r]? = some o → MapF w' r (upd f s v) := by
 obtain ⟨es, cl, hb, ho⟩ := h
 have hkey : IsKey .string (.string s) := by simp [IsKey]
 rcases ho.find s with ⟨h1, h2⟩ | ⟨j, v', h1, h2, e, he, hek⟩
 ·refine ⟨_, update_miss v hm hk hb h2, fun w' hw => ⟨_, _, hw, ⟨?_, ?_, ?_, ?_⟩⟩⟩
  ·intro x hx
   rw [Array.toList_push] at hx
   rcases List.mem_append.1 hx with hx | hx
   ·exact ho.keys x hx
   ·rw [List.mem_singleton.1 hx]; exact hkey
  ·intro t ht x hx
   unfold upd at ht
   split at ht
   ·cases ht
   ·rename_i hne
    rw [Array.toList_push] at hx
    rcases List.mem_append.1 hx with hx | hx
    ·exact ho.non t ht x hx
    ·rw [List.mem_singleton.1 hx]
     intro hc
     injection hc with hc
     exact hne hc.symm
  ·intro t u ht
   unfold upd at ht
   rw [Array.toList_push]
   split at ht
   ·rename_i heq
    injection ht with ht
    subst ht
    subst heq
    exact ⟨es.toList.length, ({ key := .string t, val := v, born := cl } : MapEntry), by rw [List.getElem?_append_right (Nat.le_refl _)]; simp, rfl, rfl⟩
   ·obtain ⟨i, e, hi, hk', hv⟩ := ho.has t u ht
    exact ⟨i, e, by rw [List.getElem?_append_left (List.getElem?_eq_some_iff.1 hi).1]; exact hi, hk', hv⟩
  ·intro i j a b hi hj hab
   rw [Array.toList_push] at hi hj
   have hnew := ho.non s h1
   rcases Nat.lt_or_ge i es.toList.length with li | li <;> rcases Nat.lt_or_ge j es.toList.length with lj | lj
   ·rw [List.getElem?_append_left li] at hi
    rw [List.getElem?_append_left lj] at hj
    exact ho.uniq i j a b hi hj hab
   ·rw [List.getElem?_append_left li] at hi
    rw [List.getElem?_append_right lj] at hj
    have hb' := List.mem_singleton.1 (List.mem_of_getElem? hj)
    subst hb'
    exact absurd hab (hnew a (List.mem_of_getElem? hi))
   ·rw [List.getElem?_append_right li] at hi
    rw [List.getElem?_append_left lj] at hj
    have ha' := List.mem_singleton.1 (List.mem_of_getElem? hi)
    subst ha'
    exact absurd hab.symm (hnew b (List.mem_of_getElem? hj))
   ·rw [List.getElem?_append_right li] at hi
    rw [List.getElem?_append_right lj] at hj
    have h1 := (List.getElem?_eq_some_iff.1 hi).1
    have h2 := (List.getElem?_eq_some_iff.1 hj).1
    simp only [List.length_singleton] at h1 h2
    omega
 ·have hj : es[j]? = some e := by simpa using he
  have hrun : (Instr.mapUpdate mty (.map (some r)) (.string s) v).run P w = .ok () { w with heap := w.heap.setIfInBounds r (.map (es.modify j fun x => { x with key := .string s, val := v }) cl) } := by
   have hc := run_checkKey (P := P) (w := w) (k := .string s) hk (by simp [IsKey]) false 9999
   have hf2 := run_findKey (P := P) (w := w) hk h2
   simp [Instr.mapUpdate, run_underlying hm, Go.MapKept.run_getObj_map hb, hc, hf2, hj, hek, run_keyThatStays hkey, Go.MapKept.run_setObj_map _ hb, Result.andThen]
  refine ⟨_, hrun, fun w' hw => ⟨_, _, hw, ?_⟩⟩
  have hg : ∀ i : Nat, (es.modify j fun x => { x with key := .string s, val := v }).toList[i]? = if i = j then some { e with key := .string s, val := v } else es.toList[i]? := by
   intro i
   rw [Array.getElem?_toList, Array.getElem?_modify]
   by_cases hij : j = i
   ·subst hij
    simp [hj]
   ·rw [if_neg hij, if_neg (fun h => hij h.symm), Array.getElem?_toList]
  have hmem : ∀ x, x ∈ (es.modify j fun x => { x with key := .string s, val := v }).toList → x = { e with key := .string s, val := v } ∨ ∃ i : Nat, i ≠ j ∧ es.toList[i]? = some x := by
   intro x hx
   obtain ⟨i, hi⟩ := List.getElem?_of_mem hx
   rw [hg] at hi
   split at hi
   ·injection hi with hi; exact .inl hi.symm
   ·rename_i hne; exact .inr ⟨i, hne, hi⟩
  refine ⟨?_, ?_, ?_, ?_⟩
  ·intro x hx
   rcases hmem x hx with rfl | ⟨i, _, hi⟩
   ·exact hkey
   ·exact ho.keys x (List.mem_of_getElem? hi)
  ·intro t ht x hx
   unfold upd at ht
   split at ht
   ·cases ht
   ·rename_i hne
    rcases hmem x hx with rfl | ⟨i, _, hi⟩
    ·intro hc
     injection hc with hc
     exact hne hc.symm
    ·exact ho.non t ht x (List.mem_of_getElem? hi)
  ·intro t u ht
   unfold upd at ht
   split at ht
   ·rename_i heq
    injection ht with ht
    subst ht
    subst heq
    exact ⟨j, _, by rw [hg, if_pos rfl], rfl, rfl⟩
   ·rename_i hne
    obtain ⟨i, e', hi, hk', hv⟩ := ho.has t u ht
    have hij : i ≠ j := by
     rintro rfl
     rw [hi] at he
     injection he with he
     subst he
     rw [hk'] at hek
     injection hek with hek
     exact hne hek
    exact ⟨i, e', by rw [hg, if_neg hij]; exact hi, hk', hv⟩
  ·intro i k a b hi hk2 hab
   rw [hg] at hi hk2
   split at hi <;> split at hk2
   ·omega
   ·rename_i h3 h4
    subst h3
    injection hi with hi
    subst hi
    exact ho.uniq _ _ e b he hk2 (hek.trans hab)
   ·rename_i h3 h4
    subst h4
    injection hk2 with hk2
    subst hk2
    exact ho.uniq _ _ a e hi he (hab.trans hek.symm)
   ·exact ho.uniq i k a b hi hk2 hab
end
end Go.Proofs.YtcllaplddebilaaGreatDoor
end
section
namespace Go.Proofs.YtcllaplddebilaaGreatDoor
open Go.RowKit Go.Sort
attribute [local go_sem] cell?_grow frozen?_grow cell?_redrawn frozen?_redrawn size_redrawn size_grow ba_get ba_extract
attribute [local simp] size_redrawn
open Go.Lib Go.Proofs.YtcllaplddebilaaGreatDoorW.PrintWords Go.Proofs.YtcllaplddebilaaGreatDoorW.PrintLast Go.Proofs.YtcllaplddebilaaGreatDoorW.PrintMore
def nilS : Value := .slice none 0 0
structure GMap {α : Type} (d : Kd α) (e : Nat) (w : World) (base r : Nat) (g : ByteArray → List α) (f : ByteArray → Option Value) : Prop where
 map : MapF w r f
 non : ∀ n, f n = none → g n = []
 row : ∀ n v, f n = some v → d.R e w base (fun _ => True) v (g n)
 apart : ∀ n n' v v' k, n ≠ n' → f n = some v → f n' = some v' → v.ownBlock = some k → v'.ownBlock ≠ some k
def updG {α : Type} (g : ByteArray → List α) (n : ByteArray) (l : List α) : ByteArray → List α := fun t => if t = n then l else g t
section
variable {α : Type} {d : Kd α} {e base r : Nat} {w w1 : World} {g : ByteArray → List α} {f : ByteArray → Option Value}
def Flat (d : Kd α) : Prop := ∀ (w w' : World) (base : Nat) (ok ok' : Nat → Prop) (x : α) (cs : List Value), d.M w base ok x cs → d.M w' base ok' x cs
theorem R_flat (hM : Flat d) {ok : Nat → Prop} {v : Value} {xs : List α} (h : d.R e w base ok v xs) (hown : ∀ k, v.ownBlock = some k → w1.heap[k]? = w.heap[k]?) : d.R e w1 base (fun _ => True) v xs := by
 obtain ⟨_, inner, ho, hr⟩ := h
 exact ⟨fun _ _ => trivial, inner, own_move ho hown, hr.imp_ (fun _ _ hp => hM _ _ _ _ _ _ _ hp)⟩
theorem R_typed {ok : Nat → Prop} {v : Value} {xs : List α} (h : d.R e w base ok v xs) (k : Nat) (hk : v.ownBlock = some k) : base ≤ k ∧ k < w.heap.size ∧ ∃ cells, w.heap[k]? = some (.cells cells e (0, 0)) := by
 obtain ⟨_, inner, ho, hr⟩ := h
 exact ⟨own_base ho k hk, own_lt ho k hk, own_typed ho k hk⟩
theorem GMap.ne (h : GMap d e w base r g f) {v : Value} {n : ByteArray} (hv : f n = some v) (k : Nat) (hk : v.ownBlock = some k) : k ≠ r := by
 rintro rfl
 obtain ⟨_, _, cs, hc⟩ := R_typed (h.row n v hv) k hk
 obtain ⟨es, cl, hb, _⟩ := h.map
 rw [hc] at hb
 cases hb
theorem GMap.empty (h : w.heap[r]? = some (.map #[] 0)) : GMap d e w base r (fun _ => []) (fun _ => none) :=
 ⟨MapF.empty h, fun _ _ => rfl, (fun _ _ h => by cases h), (fun _ _ _ _ _ _ h => by cases h)⟩
theorem GMap.keep (hM : Flat d) (h : GMap d e w base r g f) (hr : w1.heap[r]? = w.heap[r]?) (hk : ∀ n v k, f n = some v → v.ownBlock = some k → w1.heap[k]? = w.heap[k]?) : GMap d e w1 base r g f :=
 ⟨h.map.of_heap hr, h.non, fun n v hv => R_flat hM (h.row n v hv) (fun k hk' => hk n v k hv hk'), h.apart⟩
theorem GMap.below (hM : Flat d) (h : GMap d e w base r g f) (hb : Below w.heap.size w w1) : GMap d e w1 base r g f :=
 h.keep hM (hb.block r h.map.lt) (fun n v k hv hk => hb.block k (R_typed (h.row n v hv) k hk).2.1)
theorem GMap.at_ (h : GMap d e w base r g f) (n : ByteArray) : d.R e w base (fun _ => True) ((f n).getD nilS) (g n) := by
 cases hf : f n with
 | none => rw [h.non n hf]; exact Kd.R_nil _ _ _ _ _
 | some v => exact h.row n v hf
theorem GMap.look (h : GMap d e w base r g f) (n : ByteArray) {P : Program} {mty kt et : TypeId} (hm : P.underlying mty = some (.map kt et)) (hk : P.underlying kt = some .string) (hz : ∀ w, (zeroValue et).run P w = .ok nilS w) :
  (Instr.lookup mty (.map (some r)) (.string n) false).run P w = .ok ((f n).getD nilS) w := by
 cases hf : f n with
 | none => exact h.map.miss hf false nilS hm hk (hz w)
 | some v => exact h.map.get hf false hm hk
theorem GMap.put (hM : Flat d) (h : GMap d e w base r g f) (n : ByteArray) {v1 : Value} {ys : List α} {o : Obj} (hg : w.grownBy w1 ((f n).getD nilS).ownBlock) (h1 : d.R e w1 base (fun _ => True) v1 ys)
  (hat : v1.ownBlock = ((f n).getD nilS).ownBlock ∨ ∃ b, v1.ownBlock = some b ∧ w.heap.size ≤ b) (ho : ∀ w' : World, w'.heap[r]? = some o → MapF w' r (upd f n v1)) :
  GMap d e { w1 with heap := w1.heap.setIfInBounds r o } base r (updG g n ys) (upd f n v1) := by
 have hrl : r < w.heap.size := h.map.lt
 have hrl1 : r < w1.heap.size := Nat.lt_of_lt_of_le hrl hg.size
 have hv1r : ∀ k, v1.ownBlock = some k → k ≠ r := by
  rintro k hk rfl
  rcases hat with hat | ⟨b, hb, hle⟩
  ·rw [hat] at hk
   cases hf : f n with
   | none => rw [hf] at hk; simp [nilS, Value.ownBlock] at hk
   | some v => rw [hf] at hk; exact h.ne hf k hk rfl
  ·rw [hb] at hk
   injection hk with hk
   omega
 have hset : ∀ k, k ≠ r → ({ w1 with heap := w1.heap.setIfInBounds r o } : World).heap[k]? = w1.heap[k]? := fun k hk => by
  show (w1.heap.setIfInBounds r o)[k]? = _
  rw [Array.getElem?_setIfInBounds, if_neg (fun e => hk e.symm)]
 have hself : ({ w1 with heap := w1.heap.setIfInBounds r o } : World).heap[r]? = some o := by
  show (w1.heap.setIfInBounds r o)[r]? = _
  simp [hrl1]
 have hother : ∀ n' v, n' ≠ n → f n' = some v → ∀ k, v.ownBlock = some k → w1.heap[k]? = w.heap[k]? := by
  intro n' v hne hv k hk
  refine hg.block k (R_typed (h.row n' v hv) k hk).2.1 ?_
  intro hc
  cases hf : f n with
  | none => rw [hf] at hc; simp [nilS, Value.ownBlock] at hc
  | some u => rw [hf] at hc; exact h.apart n' n v u k hne hv hf hk hc.symm
 refine ⟨ho _ hself, ?_, ?_, ?_⟩
 ·intro t ht
  unfold upd at ht
  unfold updG
  split at ht
  ·cases ht
  ·rename_i hne
   rw [if_neg hne]
   exact h.non t ht
 ·intro t v ht
  unfold upd at ht
  unfold updG
  split at ht
  ·rename_i heq
   rw [if_pos heq]
   injection ht with ht
   subst ht
   exact R_flat hM h1 (fun k hk => hset k (hv1r k hk))
  ·rename_i hne
   rw [if_neg hne]
   refine R_flat hM (h.row t v ht) (fun k hk => ?_)
   rw [hset k (h.ne ht k hk)]
   exact hother t v hne ht k hk
 ·intro t t' v v' k hne ht ht' hk hk'
  unfold upd at ht ht'
  split at ht <;> split at ht'
  ·rename_i h1' h2'
   exact hne (h1'.trans h2'.symm)
  ·rename_i h1' h2'
   injection ht with ht
   subst ht
   rcases hat with hat | ⟨b, hb, hle⟩
   ·rw [hat] at hk
    cases hf : f n with
    | none => rw [hf] at hk; simp [nilS, Value.ownBlock] at hk
    | some u => rw [hf] at hk; exact h.apart n t' u v' k (fun e => h2' e.symm) hf ht' hk hk'
   ·rw [hb] at hk
    injection hk with hk
    have := (R_typed (h.row t' v' ht') k hk').2.1
    omega
  ·rename_i h1' h2'
   injection ht' with ht'
   subst ht'
   rcases hat with hat | ⟨b, hb, hle⟩
   ·rw [hat] at hk'
    cases hf : f n with
    | none => rw [hf] at hk'; simp [nilS, Value.ownBlock] at hk'
    | some u => rw [hf] at hk'; exact h.apart n t u v k (fun e => h1' e.symm) hf ht hk' hk
   ·rw [hb] at hk'
    injection hk' with hk'
    have := (R_typed (h.row t v ht) k hk).2.1
    omega
  ·exact h.apart t t' v v' k hne ht ht' hk hk'
end
theorem flat_string : Flat Kd.string := fun _ _ _ _ _ _ _ h => h
theorem below_mset {B : Nat} {a x : World} (h : Below B a x) (r : Nat) (o : Obj) (hr : B ≤ r) : Below B a { x with heap := x.heap.setIfInBounds r o } :=
 ⟨h.os, h.tape, h.output, by simpa using h.size, fun k hk => by
  show (x.heap.setIfInBounds r o)[k]? = _
  rw [Array.getElem?_setIfInBounds, if_neg (by omega)]
  exact h.block k hk⟩
theorem mset_other (x : World) (r k : Nat) (o : Obj) (h : k ≠ r) : ({ x with heap := x.heap.setIfInBounds r o } : World).heap[k]? = x.heap[k]? := by
 show (x.heap.setIfInBounds r o)[k]? = _
 rw [Array.getElem?_setIfInBounds, if_neg (fun e => h e.symm)]
theorem take_snoc' {α : Type} (xs : List α) (k : Nat) (x : α) (h : xs[k]? = some x) : xs.take (k + 1) = xs.take k ++ [x] := by
 rw [List.take_add_one, h]; rfl
end Go.Proofs.YtcllaplddebilaaGreatDoor
end

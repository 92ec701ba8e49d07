/- laws.FnKMatch: a part of the proof: ParseA. -/
import Derived.Test.YtcllaplddebilaaGreatDoorK12
set_option maxRecDepth 1000000
set_option maxHeartbeats 64000000
set_option linter.unusedVariables false
set_option linter.unusedSimpArgs false
namespace Go.Proofs.YtcllaplddebilaaGreatDoor
open Go.RowKit Go.Sort
attribute [local go_sem] cell?_grow frozen?_grow cell?_redrawn frozen?_redrawn size_redrawn size_grow ba_get ba_extract
attribute [local simp] size_redrawn
theorem bm0 : bits .and .i64 0 65535 = 0 := by decide
theorem bm275 : bits .and .i64 275 65535 = 275 := by decide
theorem bm260 : bits .and .i64 260 65535 = 260 := by decide
theorem bm265 : bits .and .i64 265 65535 = 265 := by decide
theorem bm1036 : bits .and .i64 1036 65535 = 1036 := by decide
theorem bm1040 : bits .and .i64 1040 65535 = 1040 := by decide
theorem bm1042 : bits .and .i64 1042 65535 = 1042 := by decide
attribute [local go_sem] bm0 bm275 bm260 bm265 bm1036 bm1040 bm1042
theorem parse8 (a b c d e f g h : UInt8) (y m dd : Int) (w : World) (hG : Gl w) (hy : Hid (y = ((((((a.toNat : Int) - 48) * 10 + (b.toNat : Int)) - 48) * 10 + (c.toNat : Int)) - 48) * 10 + (d.toNat : Int) - 48)) (hy1 : 1 ≤ y) (hy2 : y ≤ 9999)
  (hm : Hid (m = ((e.toNat : Int) - 48) * 10 + ((f.toNat : Int) - 48))) (hm1 : 1 ≤ m) (hm2 : m ≤ 12) (hd : Hid (dd = ((g.toNat : Int) - 48) * 10 + ((h.toNat : Int) - 48))) (hd1 : 1 ≤ dd) (hd2 : dd ≤ mlen y m) (a0 : (48 : Int) ≤ (a.toNat : Int)) (a1 : (a.toNat : Int) ≤ (57 : Int)) (b0 : (48 : Int) ≤ (b.toNat : Int)) (b1 : (b.toNat : Int) ≤ (57 : Int)) (c0 : (48 : Int) ≤ (c.toNat : Int)) (c1 : (c.toNat : Int) ≤ (57 : Int)) (d0 : (48 : Int) ≤ (d.toNat : Int)) (d1 : (d.toNat : Int) ≤ (57 : Int)) (e0 : (48 : Int) ≤ (e.toNat : Int)) (e1 : (e.toNat : Int) ≤ (57 : Int)) (f0 : (48 : Int) ≤ (f.toNat : Int)) (f1 : (f.toNat : Int) ≤ (57 : Int)) (g0 : (48 : Int) ≤ (g.toNat : Int)) (g1 : (g.toNat : Int) ≤ (57 : Int)) (h0 : (48 : Int) ≤ (h.toNat : Int)) (h1 : (h.toNat : Int) ≤ (57 : Int)) :
  Calls Tryz.prog 186 #[.string { data := #[50, 48, 48, 54, 48, 49, 48, 50] }, .string { data := #[a, b, c, d, e, f, g, h] }] w fun e w' => e = .returned (.tuple #[.agg #[.int .i64 (dnum y m dd * 86400 + 62135596800), .int .i32 0, .string { data := #[85, 84, 67] }, .int .i64 0], .nilIface]) ∧ Below w.heap.size w w' := by
 have hG0 : ∀ o, Gl (w.alloc o) := fun o => hG.below ((Below.refl _ _).alloc (Nat.le_refl _) o) hG.size
 have hml := mlen_bd y m
 go_enter Tryz.func186, Tryz.ntmps186
 go_wp2_with fail
 refine wp_loop_rounds 4 ?_
 rw [rounds_succ]
 go_wp2_with fail; refine (chunk0 _ (hG0 _)).mono ?_; rintro e wk ⟨rfl, hB⟩; replace hG := (hG0 _).below hB (hG0 _).size
 (try dsimp only); (repeat (first | (with_reducible refine then_exit ?_) | (with_reducible refine inBlock_ne (by decide) ?_) | (with_reducible refine inBlock_eq ?_) | go_values | go_skip | go_guarded | go_step | go_upon | go_back)); refine (skip_nil _ _).mono ?_; rintro e wk ⟨rfl, hbk⟩; replace hB := Below.then hB hbk; replace hG := hG.below hbk hG.size; clear hbk
 go_wp2_with (go_at_call 236; go_in)
 go_quiet (fail); generalize hwd : World.drewN wk nq = wd; have hbk : Below wk.heap.size wk wd := (by rw [← hwd]; exact below_drewN (Below.refl _ _) _); clear hwd; replace hB := Below.then hB hbk; replace hG := hG.below hbk hG.size; clear hbk; obtain ⟨wk, hwk⟩ : ∃ x, x = wd := ⟨wd, rfl⟩; subst hwk
 (try dsimp only); (repeat (first | (with_reducible refine then_exit ?_) | (with_reducible refine inBlock_ne (by decide) ?_) | (with_reducible refine inBlock_eq ?_) | go_values | go_skip | go_guarded | go_step | go_upon | go_back)); refine (atoi4v _ _ _ _ y _ hy.out a0 a1 b0 b1 c0 c1 d0 d1).mono ?_; rintro e wk ⟨rfl, hbk⟩; replace hB := Below.then hB hbk; replace hG := hG.below hbk hG.size; clear hbk
 (try dsimp only); (repeat (first | (with_reducible refine then_exit ?_) | (with_reducible refine inBlock_ne (by decide) ?_) | (with_reducible refine inBlock_eq ?_) | go_values | go_skip | go_guarded | go_step | go_upon | go_back))
 rw [rounds_succ]
 (try dsimp only); (repeat (first | (with_reducible refine then_exit ?_) | (with_reducible refine inBlock_ne (by decide) ?_) | (with_reducible refine inBlock_eq ?_) | go_values | go_skip | go_guarded | go_step | go_upon | go_back)); refine (chunk1 _ hG).mono ?_; rintro e wk ⟨rfl, hbk⟩; replace hB := Below.then hB hbk; replace hG := hG.below hbk hG.size; clear hbk
 (try dsimp only); (repeat (first | (with_reducible refine then_exit ?_) | (with_reducible refine inBlock_ne (by decide) ?_) | (with_reducible refine inBlock_eq ?_) | go_values | go_skip | go_guarded | go_step | go_upon | go_back)); refine (skip_nil _ _).mono ?_; rintro e wk ⟨rfl, hbk⟩; replace hB := Below.then hB hbk; replace hG := hG.below hbk hG.size; clear hbk
 (try dsimp only); (repeat (first | (with_reducible refine then_exit ?_) | (with_reducible refine inBlock_ne (by decide) ?_) | (with_reducible refine inBlock_eq ?_) | go_values | go_skip | go_guarded | go_step | go_upon | go_back)); refine (getnum2v { data := #[e, f, g, h] } _ e f m _ (by decide : (2 : Nat) ≤ 4) rfl rfl hm.out e0 e1 f0 f1 (by decide : (4 : Nat) ≤ 9223372036854775807)).mono ?_; rintro e wk ⟨rfl, hbk⟩; replace hB := Below.then hB hbk; replace hG := hG.below hbk hG.size; clear hbk
 (try dsimp only); (repeat (first | (with_reducible refine then_exit ?_) | (with_reducible refine inBlock_ne (by decide) ?_) | (with_reducible refine inBlock_eq ?_) | go_values | go_skip | go_guarded | go_step | go_upon | go_back))
 rw [rounds_succ]
 (try dsimp only); (repeat (first | (with_reducible refine then_exit ?_) | (with_reducible refine inBlock_ne (by decide) ?_) | (with_reducible refine inBlock_eq ?_) | go_values | go_skip | go_guarded | go_step | go_upon | go_back)); refine (chunk2 _ hG).mono ?_; rintro e wk ⟨rfl, hbk⟩; replace hB := Below.then hB hbk; replace hG := hG.below hbk hG.size; clear hbk
 (try dsimp only); (repeat (first | (with_reducible refine then_exit ?_) | (with_reducible refine inBlock_ne (by decide) ?_) | (with_reducible refine inBlock_eq ?_) | go_values | go_skip | go_guarded | go_step | go_upon | go_back)); refine (skip_nil _ _).mono ?_; rintro e wk ⟨rfl, hbk⟩; replace hB := Below.then hB hbk; replace hG := hG.below hbk hG.size; clear hbk
 (try dsimp only); (repeat (first | (with_reducible refine then_exit ?_) | (with_reducible refine inBlock_ne (by decide) ?_) | (with_reducible refine inBlock_eq ?_) | go_values | go_skip | go_guarded | go_step | go_upon | go_back)); refine (getnum2v { data := #[g, h] } _ g h dd _ (by decide : (2 : Nat) ≤ 2) rfl rfl hd.out g0 g1 h0 h1 (by decide : (2 : Nat) ≤ 9223372036854775807)).mono ?_; rintro e wk ⟨rfl, hbk⟩; replace hB := Below.then hB hbk; replace hG := hG.below hbk hG.size; clear hbk
 (try dsimp only); (repeat (first | (with_reducible refine then_exit ?_) | (with_reducible refine inBlock_ne (by decide) ?_) | (with_reducible refine inBlock_eq ?_) | go_values | go_skip | go_guarded | go_step | go_upon | go_back))
 rw [rounds_succ]
 (try dsimp only); (repeat (first | (with_reducible refine then_exit ?_) | (with_reducible refine inBlock_ne (by decide) ?_) | (with_reducible refine inBlock_eq ?_) | go_values | go_skip | go_guarded | go_step | go_upon | go_back)); refine (chunk3 _ hG).mono ?_; rintro e wk ⟨rfl, hbk⟩; replace hB := Below.then hB hbk; replace hG := hG.below hbk hG.size; clear hbk
 (try dsimp only); (repeat (first | (with_reducible refine then_exit ?_) | (with_reducible refine inBlock_ne (by decide) ?_) | (with_reducible refine inBlock_eq ?_) | go_values | go_skip | go_guarded | go_step | go_upon | go_back)); refine (skip_nil _ _).mono ?_; rintro e wk ⟨rfl, hbk⟩; replace hB := Below.then hB hbk; replace hG := hG.below hbk hG.size; clear hbk
 (try dsimp only); (repeat (first | (with_reducible refine then_exit ?_) | (with_reducible refine inBlock_ne (by decide) ?_) | (with_reducible refine inBlock_eq ?_) | go_values | go_skip | go_guarded | go_step | go_upon | go_back)); refine (daysIn_any m y _ hm1 hm2 (by omega) (by omega)).mono ?_; rintro e wk ⟨rfl, hbk⟩; replace hB := Below.then hB hbk; replace hG := hG.below hbk hG.size; clear hbk
 (try dsimp only); (repeat (first | (with_reducible refine then_exit ?_) | (with_reducible refine inBlock_ne (by decide) ?_) | (with_reducible refine inBlock_eq ?_) | go_values | go_skip | go_guarded | go_step | go_upon | go_back)); refine (Date_any y m dd 0 0 0 _ hy1 (by omega) hm1 hm2 (by omega) (by omega) (by omega) (by omega) (by omega) (by omega) (by omega) (by omega)).mono ?_; rintro e wk ⟨rfl, hbk⟩; replace hB := Below.then hB hbk; replace hG := hG.below hbk hG.size; clear hbk
 obtain ⟨hc, hf⟩ := bcell hB
 have hz : w.heap.size + 1 ≤ wk.heap.size := by have := hB.size; simp at this; omega
 (try dsimp only); (repeat (first | (with_reducible refine then_exit ?_) | (with_reducible refine inBlock_ne (by decide) ?_) | (with_reducible refine inBlock_eq ?_) | go_values | go_skip | go_guarded | go_step | go_upon | go_back))
 refine bodyPost_ret (v := .tuple #[.agg #[.int .i64 (dnum y m dd * 86400 + 62135596800), .int .i32 0, .string { data := #[85, 84, 67] }, .int .i64 0], .nilIface]) ?_ rfl ⟨rfl, ?_⟩
 ·simp [results, Tryz.results186, go_sem, hc]
 ·((repeat (first | (refine below_drewN ?_ _) | (refine Below.drew ?_) | (refine Below.setCell ?_ (by simp <;> omega) _) | (refine Below.alloc ?_ (by simp <;> omega) _))); refine Below.trans ?_ (Below.mono hB (by simp <;> omega)); (repeat (first | exact Below.refl _ _ | (refine below_drewN ?_ _) | (refine Below.trans ?_ ((below_regrown _ _ _).mono (by simp <;> omega))) | (refine Below.drew ?_) | (refine Below.alloc ?_ (by simp <;> omega) _) | (refine Below.setCell ?_ (by simp <;> omega) _) | assumption)))
end Go.Proofs.YtcllaplddebilaaGreatDoor

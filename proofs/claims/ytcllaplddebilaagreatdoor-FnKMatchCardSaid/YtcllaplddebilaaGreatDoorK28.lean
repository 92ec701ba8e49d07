/- laws.FnKMatch: a part of the proof: FitsI. -/
import Derived.Test.YtcllaplddebilaaGreatDoorK04
set_option maxRecDepth 1000000
set_option maxHeartbeats 64000000
set_option linter.unusedVariables false
set_option linter.unusedSimpArgs false
namespace Go.Proofs.YtcllaplddebilaaGreatDoor
open Go.RowKit Go.Sort
attribute [local go_sem] cell?_grow frozen?_grow cell?_redrawn frozen?_redrawn size_redrawn size_grow ba_get ba_extract
attribute [local simp] size_redrawn
open Go.Lib Go.Proofs.YtcllaplddebilaaGreatDoorW.PrintWords Go.Proofs.YtcllaplddebilaaGreatDoorW.PrintLast Go.Proofs.YtcllaplddebilaaGreatDoorW.PrintMore PFnKMatch
theorem fits6 (xs : List ByteArray) (A : Option Addr) (c : Nat) (w : World) (h : Kd.string.C w A xs.length xs) : Calls Tryz.prog 206 #[.slice A xs.length c] w (AnyB w) := by
 have hm := h.2.1
 go_enter Tryz.func206, Tryz.ntmps206
 go_wp2
 ·go_ret
  exact ⟨_, rfl, by (repeat (first | exact Below.refl _ _ | (refine below_drewN ?_ _) | (refine Below.trans ?_ ((below_regrown _ _ _).mono (by simp <;> omega))) | (refine Below.drew ?_) | (refine Below.alloc ?_ (by simp <;> omega) _) | (refine Below.setCell ?_ (by simp <;> omega) _) | assumption))⟩
 go_loopw [10] (fun i wr => ∃ k : Nat, k ≤ xs.length ∧ i = .int .i64 k ∧ Below w.heap.size w wr) (fun i _ => xs.length - (RowKit.intOf i).toNat)
 case atStart => exact ⟨0, Nat.zero_le _, rfl, Below.refl _ _⟩
 case round =>
  obtain ⟨k, hk, rfl, hB⟩ := hrel
  by_cases hlt : k < xs.length
  ·obtain ⟨ad, rfl, g0⟩ := atStr (Kd.C_below h hB) k _ (List.getElem?_eq_getElem hlt)
   go_wp2
   ·go_ret
    exact ⟨_, rfl, hB⟩
   ·go_roundw
    case rel => exact ⟨k + 1, by omega, by go_num, hB⟩
    case measure => simp [RowKit.intOf]; omega
  ·go_wp2
   go_ret
   exact ⟨_, rfl, hB⟩
theorem fits5 (x : S151) (A : Option Addr) (c : Nat) (w : World) (h : Kd.string.C w A x.f1.length x.f1) : Calls Tryz.prog 145 #[.agg #[.string x.f0, .slice A x.f1.length c]] w (AnyB w) := by
 go_enter Tryz.func145, Tryz.ntmps145
 go_wp2_with fail
 ·go_ret
  exact ⟨_, rfl, by (repeat (first | exact Below.refl _ _ | (refine below_drewN ?_ _) | (refine Below.trans ?_ ((below_regrown _ _ _).mono (by simp <;> omega))) | (refine Below.drew ?_) | (refine Below.alloc ?_ (by simp <;> omega) _) | (refine Below.setCell ?_ (by simp <;> omega) _) | assumption))⟩
 refine (fits6 x.f1 A c _ (Kd.C_below h (below_alloc (Below.refl _ _) _))).mono ?_
 rintro e w1 ⟨b, rfl, hb⟩
 have hB1 : Below w.heap.size w w1 := below_step (below_alloc (Below.refl _ _) _) hb
 clear hb
 cases b <;> go_wp2 <;> (go_ret; exact ⟨_, rfl, hB1⟩)
theorem fits4 (xs : List S151) (A : Option Addr) (c : Nat) (w : World) (h : k151.C w A xs.length xs) : Calls Tryz.prog 101 #[.slice A xs.length c] w (AnyB w) := by
 have hm := h.2.1
 go_enter Tryz.func101, Tryz.ntmps101
 go_wp2
 ·go_ret
  exact ⟨_, rfl, by (repeat (first | exact Below.refl _ _ | (refine below_drewN ?_ _) | (refine Below.trans ?_ ((below_regrown _ _ _).mono (by simp <;> omega))) | (refine Below.drew ?_) | (refine Below.alloc ?_ (by simp <;> omega) _) | (refine Below.setCell ?_ (by simp <;> omega) _) | assumption))⟩
 go_loopw [10] (fun i wr => ∃ k : Nat, k ≤ xs.length ∧ i = .int .i64 k ∧ Below w.heap.size w wr) (fun i _ => xs.length - (RowKit.intOf i).toNat)
 case atStart => exact ⟨0, Nat.zero_le _, rfl, Below.refl _ _⟩
 case round =>
  obtain ⟨k, hk, rfl, hB⟩ := hrel
  by_cases hlt : k < xs.length
  ·obtain ⟨ad, B, cc, rfl, hl, hr, g0, g1⟩ := at151 (Kd.C_below h hB) k _ (List.getElem?_eq_getElem hlt)
   go_wp2_with fail
   refine (fits5 _ B cc _ (Kd.C_below hr (below_alloc (Below.refl _ _) _))).mono ?_
   rintro e w1 ⟨b, rfl, hb⟩
   have hB1 : Below w.heap.size w w1 := below_step (below_alloc hB _) hb
   clear hb g0 g1
   cases b
   ·go_wp2
    go_ret
    exact ⟨_, rfl, hB1⟩
   ·go_wp2
    go_roundw
    case rel => exact ⟨k + 1, by omega, by go_num, hB1⟩
    case measure => simp [RowKit.intOf]; omega
  ·go_wp2
   go_ret
   exact ⟨_, rfl, hB⟩
theorem fits3 (x : S75) (A : Option Addr) (c : Nat) (w : World) (h : k151.C w A x.f1.length x.f1) : Calls Tryz.prog 63 #[.agg #[.string x.f0, .slice A x.f1.length c, .string x.f2]] w (AnyB w) := by
 go_enter Tryz.func63, Tryz.ntmps63
 go_wp2_with fail
 ·go_ret
  exact ⟨_, rfl, by (repeat (first | exact Below.refl _ _ | (refine below_drewN ?_ _) | (refine Below.trans ?_ ((below_regrown _ _ _).mono (by simp <;> omega))) | (refine Below.drew ?_) | (refine Below.alloc ?_ (by simp <;> omega) _) | (refine Below.setCell ?_ (by simp <;> omega) _) | assumption))⟩
 refine (fits4 x.f1 A c _ (Kd.C_below h (below_alloc (Below.refl _ _) _))).mono ?_
 rintro e w1 ⟨b, rfl, hb⟩
 have hB1 : Below w.heap.size w w1 := below_step (below_alloc (Below.refl _ _) _) hb
 have c2 : w1.cell? ⟨w.heap.size, 2, none⟩ = some (.string x.f2) := ((bcell hb).1 _ _ (by simp)).trans ((cell_blk (new_blk w _) 2).trans rfl)
 clear hb
 cases b
 ·go_wp2
  go_ret
  exact ⟨_, rfl, hB1⟩
 ·go_wp2
  all_goals (go_ret; exact ⟨_, rfl, hB1⟩)
theorem fits2 (xs : List S75) (A : Option Addr) (c : Nat) (w : World) (h : k75.C w A xs.length xs) : Calls Tryz.prog 32 #[.slice A xs.length c] w (AnyB w) := by
 have hm := h.2.1
 go_enter Tryz.func32, Tryz.ntmps32
 go_wp2
 ·go_ret
  exact ⟨_, rfl, by (repeat (first | exact Below.refl _ _ | (refine below_drewN ?_ _) | (refine Below.trans ?_ ((below_regrown _ _ _).mono (by simp <;> omega))) | (refine Below.drew ?_) | (refine Below.alloc ?_ (by simp <;> omega) _) | (refine Below.setCell ?_ (by simp <;> omega) _) | assumption))⟩
 go_loopw [10] (fun i wr => ∃ k : Nat, k ≤ xs.length ∧ i = .int .i64 k ∧ Below w.heap.size w wr) (fun i _ => xs.length - (RowKit.intOf i).toNat)
 case atStart => exact ⟨0, Nat.zero_le _, rfl, Below.refl _ _⟩
 case round =>
  obtain ⟨k, hk, rfl, hB⟩ := hrel
  by_cases hlt : k < xs.length
  ·obtain ⟨ad, B, cc, rfl, hl, hr, g0, g1, g2⟩ := at75 (Kd.C_below h hB) k _ (List.getElem?_eq_getElem hlt)
   go_wp2_with fail
   refine (fits3 _ B cc _ (Kd.C_below hr (below_alloc (Below.refl _ _) _))).mono ?_
   rintro e w1 ⟨b, rfl, hb⟩
   have hB1 : Below w.heap.size w w1 := below_step (below_alloc hB _) hb
   clear hb g0 g1 g2
   cases b
   ·go_wp2
    go_ret
    exact ⟨_, rfl, hB1⟩
   ·go_wp2
    go_roundw
    case rel => exact ⟨k + 1, by omega, by go_num, hB1⟩
    case measure => simp [RowKit.intOf]; omega
  ·go_wp2
   go_ret
   exact ⟨_, rfl, hB⟩
theorem zfits1 (x : S36) (A B : Option Addr) (c c2 : Nat) (w : World) (h : k75.C w A x.f1.length x.f1) (hx : x.f2.length ≤ 9223372036854775807) :
  Calls Tryz.prog 12 #[.agg #[.string x.f0, .slice A x.f1.length c, .slice B x.f2.length c2]] w (AnyB w) := by
 go_enter Tryz.func12, Tryz.ntmps12
 go_wp2_with fail
 ·go_ret
  exact ⟨_, rfl, by (repeat (first | exact Below.refl _ _ | (refine below_drewN ?_ _) | (refine Below.trans ?_ ((below_regrown _ _ _).mono (by simp <;> omega))) | (refine Below.drew ?_) | (refine Below.alloc ?_ (by simp <;> omega) _) | (refine Below.setCell ?_ (by simp <;> omega) _) | assumption))⟩
 refine (fits2 x.f1 A c _ (Kd.C_below h (below_alloc (Below.refl _ _) _))).mono ?_
 rintro e w1 ⟨b, rfl, hb⟩
 have hB1 : Below w.heap.size w w1 := below_step (below_alloc (Below.refl _ _) _) hb
 have c2' : w1.cell? ⟨w.heap.size, 2, none⟩ = some (.slice B x.f2.length c2) := ((bcell hb).1 _ _ (by simp)).trans ((cell_blk (new_blk w _) 2).trans rfl)
 clear hb
 cases b
 ·go_wp2
  go_ret
  exact ⟨_, rfl, hB1⟩
 ·go_wp2
  all_goals (go_ret; exact ⟨_, rfl, hB1⟩)
end Go.Proofs.YtcllaplddebilaaGreatDoor

/- laws.FnKMatch: a part of the proof: PropTime, CompEvent, MatchDef. -/
import Derived.Test.YtcllaplddebilaaGreatDoorK07
import Derived.Test.YtcllaplddebilaaGreatDoorK15
set_option maxRecDepth 1000000
set_option maxHeartbeats 64000000
set_option linter.unusedVariables false
set_option linter.unusedSimpArgs false
namespace Go.Proofs.YtcllaplddebilaaGreatDoor
open Go.RowKit Go.Sort
attribute [local go_sem] cell?_grow frozen?_grow cell?_redrawn frozen?_redrawn size_redrawn size_grow ba_get ba_extract
attribute [local simp] size_redrawn
open Go.Lib Go.Proofs.YtcllaplddebilaaGreatDoorW.PrintWords Go.Proofs.YtcllaplddebilaaGreatDoorW.PrintLast Go.Proofs.YtcllaplddebilaaGreatDoorW.PrintMore PFnKMatch
def inR (a e s : Int) : Bool := decide (a < s) && (decide (e = 0) || decide (s < e))
theorem propTime (w : World) (g : Nat) (p : S75) (f : ByteArray → Option ByteArray) (a o z o2 sec : Int) (l l2 : ByteArray) (h : PrAt w g p) (hD : Dv w f) (hG : Gl w) (hM : MomP f p sec) :
  Calls Tryz.prog 153 #[tv a l o, tv z l2 o2, .pointer (some ⟨g, 0, none⟩)] w fun e w' => e = .returned (.tuple #[.bool (inR a z (sec + 62135596800)), .nilIface]) ∧ Below w.heap.size w w' := by
 obtain ⟨s, hs⟩ : ∃ s, s = sec + 62135596800 := ⟨_, rfl⟩
 have HT1 : tv a l o = .agg #[.int .i64 a, .int .i32 0, .string l, .int .i64 o] := rfl
 have HT2 : tv z l2 o2 = .agg #[.int .i64 z, .int .i32 0, .string l2, .int .i64 o2] := rfl
 have hc : ∀ w loc, PrAt w g p → Dv w f → Gl w → Calls Tryz.prog 52 #[.pointer (some ⟨g, 0, none⟩), .string loc] w fun e w' => e = .returned (.tuple #[.agg #[.int .i64 (s), .int .i32 0, .string { data := #[85, 84, 67] }, .int .i64 0], .nilIface]) ∧ Below w.heap.size w w' := fun w loc h1 h2 h3 => by rw [hs]; exact dateTime w g p f loc sec h1 h2 h3 hM
 rw [← hs]
 have aP : ∀ o o', PrAt ((w.alloc o).alloc o') g p := fun o o' => (h.below (below_alloc (Below.refl _ _) o)).below (below_alloc (Below.refl _ _) o')
 have aD : ∀ o o', Dv ((w.alloc o).alloc o') f := fun o o' => (hD.below (below_alloc (Below.refl _ _) o)).below (below_alloc (Below.refl _ _) o')
 have aG : ∀ o o', Gl ((w.alloc o).alloc o') := fun o o' => (hG.below (below_alloc (Below.refl _ _) o) hG.size).below (below_alloc (Below.refl _ _) o') (hG.below (below_alloc (Below.refl _ _) o) hG.size).size
 clear hs h hD hG hM
 rw [HT1, HT2]
 go_enter Tryz.func153, Tryz.ntmps153
 go_wp2_with fail
 have h0 := old_blk (new_blk w (.cells #[.int .i64 a, .int .i32 0, .string l, .int .i64 o] 70)) (.cells #[.int .i64 z, .int .i32 0, .string l2, .int .i64 o2] 70)
 have h1 := new_blk (w.alloc (.cells #[.int .i64 a, .int .i32 0, .string l, .int .i64 o] 70)) (.cells #[.int .i64 z, .int .i32 0, .string l2, .int .i64 o2] 70)
 simp only [World.size_alloc] at h1
 have b0 : Below w.heap.size w ((w.alloc (.cells #[.int .i64 a, .int .i32 0, .string l, .int .i64 o] 70)).alloc (.cells #[.int .i64 z, .int .i32 0, .string l2, .int .i64 o2] 70)) := ((Below.refl _ _).alloc (Nat.le_refl _) _).alloc (by simp) _
 have p0 := aP (.cells #[.int .i64 a, .int .i32 0, .string l, .int .i64 o] 70) (.cells #[.int .i64 z, .int .i32 0, .string l2, .int .i64 o2] 70)
 have D0 := aD (.cells #[.int .i64 a, .int .i32 0, .string l, .int .i64 o] 70) (.cells #[.int .i64 z, .int .i32 0, .string l2, .int .i64 o2] 70)
 have G0 := aG (.cells #[.int .i64 a, .int .i32 0, .string l, .int .i64 o] 70) (.cells #[.int .i64 z, .int .i32 0, .string l2, .int .i64 o2] 70)
 clear aP aD aG
 generalize hw1 : World.alloc _ _ = w1 at h0 h1 b0 p0 D0 G0 ⊢
 clear hw1
 refine (location_ a o l _).mono ?_
 rintro _ w2 ⟨rfl, hb⟩
 have P2 := p0.below hb
 have D2 := D0.below hb
 have G2 := G0.below hb G0.size
 have H0 := hI (below_blk hb h0)
 have H1 := hI (below_blk hb h1)
 have HB := hI (b0.trans (hb.mono b0.size))
 clear hb h0 h1 b0 p0 D0 G0
 go_wp2_with fail
 refine (hc _ _ P2 D2 G2).mono ?_
 rintro _ w3 ⟨rfl, hb⟩
 have H0 := hI (below_blk hb H0.out)
 have H1 := hI (below_blk hb H1.out)
 have HB := hI (HB.out.trans (hb.mono HB.out.size))
 clear hb P2 D2 G2 hc
 have x0 : w3.cell? ⟨w.heap.size, 0, none⟩ = some (.int .i64 a) := (cell_blk H0.out 0).trans rfl
 have x1 : w3.cell? ⟨w.heap.size, 1, none⟩ = some (.int .i32 0) := (cell_blk H0.out 1).trans rfl
 have x2 : w3.cell? ⟨w.heap.size, 2, none⟩ = some (.string l) := (cell_blk H0.out 2).trans rfl
 have x3 : w3.cell? ⟨w.heap.size, 3, none⟩ = some (.int .i64 o) := (cell_blk H0.out 3).trans rfl
 have y0 : w3.cell? ⟨w.heap.size + 1, 0, none⟩ = some (.int .i64 z) := (cell_blk H1.out 0).trans rfl
 have y1 : w3.cell? ⟨w.heap.size + 1, 1, none⟩ = some (.int .i32 0) := (cell_blk H1.out 1).trans rfl
 have y2 : w3.cell? ⟨w.heap.size + 1, 2, none⟩ = some (.string l2) := (cell_blk H1.out 2).trans rfl
 have y3 : w3.cell? ⟨w.heap.size + 1, 3, none⟩ = some (.int .i64 o2) := (cell_blk H1.out 3).trans rfl
 have x0' : ∀ o, (w3.alloc o).cell? ⟨w.heap.size, 0, none⟩ = _ := fun o => pw_cell_below (below_alloc (Below.refl _ _) o) x0
 have x1' : ∀ o, (w3.alloc o).cell? ⟨w.heap.size, 1, none⟩ = _ := fun o => pw_cell_below (below_alloc (Below.refl _ _) o) x1
 have x2' : ∀ o, (w3.alloc o).cell? ⟨w.heap.size, 2, none⟩ = _ := fun o => pw_cell_below (below_alloc (Below.refl _ _) o) x2
 have x3' : ∀ o, (w3.alloc o).cell? ⟨w.heap.size, 3, none⟩ = _ := fun o => pw_cell_below (below_alloc (Below.refl _ _) o) x3
 go_wp2_with fail
 refine (after_ s 0 a o { data := #[85, 84, 67] } l _).mono ?_
 rintro _ w4 ⟨rfl, hb⟩
 have H0 := hI (below_blk hb (old_blk H0.out _))
 have H1 := hI (below_blk hb (old_blk H1.out _))
 have H2 := hI (below_blk hb (new_blk w3 _))
 have HB := hI ((HB.out.alloc HB.out.size _).trans (hb.mono (Nat.le_trans HB.out.size (by simp))))
 clear hb x0 x1 x2 x3 y0 y1 y2 y3 x0' x1' x2' x3'
 have y0 : w4.cell? ⟨w.heap.size + 1, 0, none⟩ = some (.int .i64 z) := (cell_blk H1.out 0).trans rfl
 have y1 : w4.cell? ⟨w.heap.size + 1, 1, none⟩ = some (.int .i32 0) := (cell_blk H1.out 1).trans rfl
 have y2 : w4.cell? ⟨w.heap.size + 1, 2, none⟩ = some (.string l2) := (cell_blk H1.out 2).trans rfl
 have y3 : w4.cell? ⟨w.heap.size + 1, 3, none⟩ = some (.int .i64 o2) := (cell_blk H1.out 3).trans rfl
 have s0 : w4.cell? ⟨w3.heap.size, 0, none⟩ = some (.int .i64 s) := (cell_blk H2.out 0).trans rfl
 have s1 : w4.cell? ⟨w3.heap.size, 1, none⟩ = some (.int .i32 0) := (cell_blk H2.out 1).trans rfl
 have s2 : w4.cell? ⟨w3.heap.size, 2, none⟩ = some (.string { data := #[85, 84, 67] }) := (cell_blk H2.out 2).trans rfl
 have s3 : w4.cell? ⟨w3.heap.size, 3, none⟩ = some (.int .i64 0) := (cell_blk H2.out 3).trans rfl
 by_cases g1 : a < s
 ·have d1 : decide (a < s) = true := decide_eq_true g1
  go_wp2_with fail
  refine (isZero_ z o2 l2 _).mono ?_
  rintro _ w5 ⟨rfl, hb⟩
  have H1 := hI (below_blk hb H1.out)
  have H2 := hI (below_blk hb H2.out)
  have HB := hI (HB.out.trans (hb.mono HB.out.size))
  clear hb y0 y1 y2 y3 s0 s1 s2 s3
  have y0 : w5.cell? ⟨w.heap.size + 1, 0, none⟩ = some (.int .i64 z) := (cell_blk H1.out 0).trans rfl
  have y1 : w5.cell? ⟨w.heap.size + 1, 1, none⟩ = some (.int .i32 0) := (cell_blk H1.out 1).trans rfl
  have y2 : w5.cell? ⟨w.heap.size + 1, 2, none⟩ = some (.string l2) := (cell_blk H1.out 2).trans rfl
  have y3 : w5.cell? ⟨w.heap.size + 1, 3, none⟩ = some (.int .i64 o2) := (cell_blk H1.out 3).trans rfl
  have s0 : w5.cell? ⟨w3.heap.size, 0, none⟩ = some (.int .i64 s) := (cell_blk H2.out 0).trans rfl
  have s1 : w5.cell? ⟨w3.heap.size, 1, none⟩ = some (.int .i32 0) := (cell_blk H2.out 1).trans rfl
  have s2 : w5.cell? ⟨w3.heap.size, 2, none⟩ = some (.string { data := #[85, 84, 67] }) := (cell_blk H2.out 2).trans rfl
  have s3 : w5.cell? ⟨w3.heap.size, 3, none⟩ = some (.int .i64 0) := (cell_blk H2.out 3).trans rfl
  by_cases g2 : z = 0
  ·have d2 : decide (z = 0) = true := decide_eq_true g2
   have hV : Hid (inR a z s = true) := hI (by unfold inR; rw [d1, d2]; rfl)
   go_wp2
   exact bodyPost_ret (v := .tuple #[.bool true, .nilIface]) (by simp [results, Tryz.results153, go_sem]) rfl ⟨by rw [hV.out], HB.out⟩
  ·have d2 : decide (z = 0) = false := decide_eq_false g2
   go_wp2_with fail
   refine (before_ s 0 z o2 { data := #[85, 84, 67] } l2 _).mono ?_
   rintro _ w6 ⟨rfl, hb⟩
   have HB := hI (HB.out.trans (hb.mono HB.out.size))
   clear hb y0 y1 y2 y3 s0 s1 s2 s3
   by_cases g3 : s < z
   ·have d3 : decide (s < z) = true := decide_eq_true g3
    have hV : Hid (inR a z s = true) := hI (by unfold inR; rw [d1, d2, d3]; rfl)
    go_wp2
    exact bodyPost_ret (v := .tuple #[.bool true, .nilIface]) (by simp [results, Tryz.results153, go_sem]) rfl ⟨by rw [hV.out], HB.out⟩
   ·have d3 : decide (s < z) = false := decide_eq_false g3
    have hV : Hid (inR a z s = false) := hI (by unfold inR; rw [d1, d2, d3]; rfl)
    go_wp2
    exact bodyPost_ret (v := .tuple #[.bool false, .nilIface]) (by simp [results, Tryz.results153, go_sem]) rfl ⟨by rw [hV.out], HB.out⟩
 ·have d1 : decide (a < s) = false := decide_eq_false g1
  have hV : Hid (inR a z s = false) := hI (by unfold inR; rw [d1]; rfl)
  go_wp2
  exact bodyPost_ret (v := .tuple #[.bool false, .nilIface]) (by simp [results, Tryz.results153, go_sem]) rfl ⟨by rw [hV.out], HB.out⟩
def tmS : Option Int → Int
 | none => 0
 | some s => s + 62135596800
def tmL : Option Int → ByteArray
 | none => { data := #[] }
 | some _ => { data := #[85, 84, 67] }
theorem tmo_eq (r : Option Int) : tmo r = .agg #[.int .i64 (tmS r), .int .i32 0, .string (tmL r), .int .i64 0] := by cases r <;> rfl
def evR (a z S E : Int) : Bool := (decide (a < S) && (decide (z = 0) || decide (S < z))) || (decide (a < E) && (decide (z = 0) || decide (E < z))) || (decide (S < a) && (!decide (z = 0) && decide (z < E)))
theorem compTime_event (w : World) (C lo hi : Nat) (x : S36) (a o z o2 : Int) (l l2 : ByteArray) (hC : CompIn w lo hi C x) (hh : hi ≤ w.heap.size) (hM : firstP x.f1 nmRRULE = none) (hN : (x.f0.toList == ([86, 69, 86, 69, 78, 84] : List UInt8)) = true) (f : ByteArray → Option ByteArray) (r1 r2 : Option Int) (hD : Dv w f) (hG : Gl w) (hS : MomO f (firstP x.f1 nmSTART) r1) (hE : EndO f x.f1 r2) :
  Calls Tryz.prog 110 #[tv a l o, tv z l2 o2, .pointer (some ⟨C, 0, none⟩)] w fun e w' => e = .returned (.tuple #[.bool (evR a z (tmS r1) (tmS r2)), .nilIface]) ∧ Below w.heap.size w w' := by
 have HT1 : tv a l o = .agg #[.int .i64 a, .int .i32 0, .string l, .int .i64 o] := rfl
 have HT2 : tv z l2 o2 = .agg #[.int .i64 z, .int .i32 0, .string l2, .int .i64 o2] := rfl
 have aC : ∀ o o', CompIn ((w.alloc o).alloc o') lo hi C x := fun o o' => (hC.later hh (below_alloc (Below.refl _ _) o)).later (Nat.le_trans hh (by simp)) (below_alloc (Below.refl _ _) o')
 have aD : ∀ o o', Dv ((w.alloc o).alloc o') f := fun o o' => (hD.below (below_alloc (Below.refl _ _) o)).below (below_alloc (Below.refl _ _) o')
 have aG : ∀ o o', Gl ((w.alloc o).alloc o') := fun o o' => (hG.below (below_alloc (Below.refl _ _) o) hG.size).below (below_alloc (Below.refl _ _) o') (hG.below (below_alloc (Below.refl _ _) o) hG.size).size
 clear hC hD hG
 rw [HT1, HT2]
 go_enter Tryz.func110, Tryz.ntmps110
 go_wp2_with fail
 have h0 := old_blk (new_blk w (.cells #[.int .i64 a, .int .i32 0, .string l, .int .i64 o] 70)) (.cells #[.int .i64 z, .int .i32 0, .string l2, .int .i64 o2] 70)
 have h1 := new_blk (w.alloc (.cells #[.int .i64 a, .int .i32 0, .string l, .int .i64 o] 70)) (.cells #[.int .i64 z, .int .i32 0, .string l2, .int .i64 o2] 70)
 simp only [World.size_alloc] at h1
 have b0 : Below w.heap.size w ((w.alloc (.cells #[.int .i64 a, .int .i32 0, .string l, .int .i64 o] 70)).alloc (.cells #[.int .i64 z, .int .i32 0, .string l2, .int .i64 o2] 70)) := ((Below.refl _ _).alloc (Nat.le_refl _) _).alloc (by simp) _
 have p0 := aC (.cells #[.int .i64 a, .int .i32 0, .string l, .int .i64 o] 70) (.cells #[.int .i64 z, .int .i32 0, .string l2, .int .i64 o2] 70)
 have D0 := aD (.cells #[.int .i64 a, .int .i32 0, .string l, .int .i64 o] 70) (.cells #[.int .i64 z, .int .i32 0, .string l2, .int .i64 o2] 70)
 have G0 := aG (.cells #[.int .i64 a, .int .i32 0, .string l, .int .i64 o] 70) (.cells #[.int .i64 z, .int .i32 0, .string l2, .int .i64 o2] 70)
 clear aC aD aG
 generalize hw1 : World.alloc _ _ = w1 at h0 h1 b0 p0 D0 G0 ⊢
 clear hw1
 have hs1 := Nat.le_trans hh b0.size
 refine (location_ a o l _).mono ?_
 rintro _ w2 ⟨rfl, hb⟩
 have p2 := p0.later hs1 hb
 have D2 := D0.below hb
 have G2 := G0.below hb G0.size
 have HA := hI (below_blk hb h0)
 have HZ := hI (below_blk hb h1)
 have hs2 := Nat.le_trans hs1 hb.size
 have HB := hI (b0.trans (hb.mono b0.size))
 clear hb b0 p0 D0 G0 h0 h1
 go_wp2_with fail
 refine (noSet w2 C lo hi x _ p2 hs2 hM).mono ?_
 rintro _ w3 ⟨rfl, hb⟩
 have p3 := p2.later hs2 hb
 have D3 := D2.below hb
 have G3 := G2.below hb G2.size
 have HA := hI (below_blk hb HA.out)
 have HZ := hI (below_blk hb HZ.out)
 have hs3 := Nat.le_trans hs2 hb.size
 have HB := hI (HB.out.trans (hb.mono HB.out.size))
 obtain ⟨P0, A, c, ch, gs, h1, h2, h3, h4, -, -, -⟩ := p3.open_
 have k0 : w3.cell? ⟨C, 0, none⟩ = some (.string x.f0) := (cell_blk h3 0).trans rfl
 have k1 : w3.cell? ⟨C, 1, none⟩ = some (.map (some P0)) := (cell_blk h3 1).trans rfl
 have x0 : w3.cell? ⟨w.heap.size, 0, none⟩ = some (.int .i64 a) := (cell_blk HA.out 0).trans rfl
 have x1 : w3.cell? ⟨w.heap.size, 1, none⟩ = some (.int .i32 0) := (cell_blk HA.out 1).trans rfl
 have x2 : w3.cell? ⟨w.heap.size, 2, none⟩ = some (.string l) := (cell_blk HA.out 2).trans rfl
 have x3 : w3.cell? ⟨w.heap.size, 3, none⟩ = some (.int .i64 o) := (cell_blk HA.out 3).trans rfl
 have x0' : ∀ o, (w3.alloc o).cell? ⟨w.heap.size, 0, none⟩ = _ := fun o => pw_cell_below (below_alloc (Below.refl _ _) o) x0
 have x1' : ∀ o, (w3.alloc o).cell? ⟨w.heap.size, 1, none⟩ = _ := fun o => pw_cell_below (below_alloc (Below.refl _ _) o) x1
 have x2' : ∀ o, (w3.alloc o).cell? ⟨w.heap.size, 2, none⟩ = _ := fun o => pw_cell_below (below_alloc (Below.refl _ _) o) x2
 have x3' : ∀ o, (w3.alloc o).cell? ⟨w.heap.size, 3, none⟩ = _ := fun o => pw_cell_below (below_alloc (Below.refl _ _) o) x3
 clear hb p2 D2 G2
 go_wp2_with fail
 have hEv : EvAt w3 w3.heap.size C P0 lo hi x.f1 gs → True := fun _ => trivial
 clear hEv
 have v0 := new_blk w3 (.cells #[.pointer (some ⟨C, 0, none⟩)] 275)
 have HA4 := hI (old_blk HA.out (.cells #[.pointer (some ⟨C, 0, none⟩)] 275))
 have HZ4 := hI (old_blk HZ.out (.cells #[.pointer (some ⟨C, 0, none⟩)] 275))
 have p4 := p3.later hs3 (below_alloc (Below.refl _ _) (.cells #[.pointer (some ⟨C, 0, none⟩)] 275))
 have D4 := D3.below (below_alloc (Below.refl _ _) (.cells #[.pointer (some ⟨C, 0, none⟩)] 275))
 have G4 := G3.below (below_alloc (Below.refl _ _) (.cells #[.pointer (some ⟨C, 0, none⟩)] 275)) G3.size
 have B4 : Below w.heap.size w (w3.alloc (.cells #[.pointer (some ⟨C, 0, none⟩)] 275)) := HB.out.alloc HB.out.size _
 have q4 := h4.later hs3 (below_alloc (Below.refl _ _) (.cells #[.pointer (some ⟨C, 0, none⟩)] 275))
 have k4 := pw_cell_below (below_alloc (Below.refl _ _) (.cells #[.pointer (some ⟨C, 0, none⟩)] 275)) k1
 have hs4 : hi ≤ (w3.alloc (.cells #[.pointer (some ⟨C, 0, none⟩)] 275)).heap.size := by simp; omega
 obtain ⟨eb, heb⟩ : ∃ n, n = w3.heap.size := ⟨_, rfl⟩
 rw [← heb] at v0 ⊢
 clear x0 x1 x2 x3 x0' x1' x2' x3' k0 k1 HA HZ p3 D3 G3 HB h4 h3 heb
 generalize w3.alloc _ = w4 at v0 HA4 HZ4 p4 D4 G4 B4 q4 k4 hs4 ⊢
 refine (location_ a o l _).mono ?_
 rintro _ w5 ⟨rfl, hb⟩
 have HV := hI (below_blk hb v0)
 have HA := hI (below_blk hb HA4.out)
 have HZ := hI (below_blk hb HZ4.out)
 have p5 := p4.later hs4 hb
 have D5 := D4.below hb
 have G5 := G4.below hb G4.size
 have hs5 := Nat.le_trans hs4 hb.size
 have HB := hI (B4.trans (hb.mono B4.size))
 have E5 : EvAt w5 eb C P0 lo hi x.f1 gs := ⟨(cell_blk HV.out 0).trans rfl, pw_cell_below hb k4, q4.later hs4 hb, hs5⟩
 clear hb v0 HA4 HZ4 p4 D4 G4 B4 q4 k4
 go_wp2_with fail
 refine (evStart w5 eb C lo hi x f _ r1 E5.e p5 hs5 D5 G5 hS).mono ?_
 rw [tmo_eq]
 rintro _ w6 ⟨rfl, hb⟩
 have HA := hI (below_blk hb HA.out)
 have HZ := hI (below_blk hb HZ.out)
 have E6 := E5.below hb
 have D6 := D5.below hb
 have G6 := G5.below hb G5.size
 have HB := hI (HB.out.trans (hb.mono HB.out.size))
 clear hb E5 D5 G5 p5
 have y0 : w6.cell? ⟨w.heap.size + 1, 0, none⟩ = some (.int .i64 z) := (cell_blk HZ.out 0).trans rfl
 have y1 : w6.cell? ⟨w.heap.size + 1, 1, none⟩ = some (.int .i32 0) := (cell_blk HZ.out 1).trans rfl
 have y2 : w6.cell? ⟨w.heap.size + 1, 2, none⟩ = some (.string l2) := (cell_blk HZ.out 2).trans rfl
 have y3 : w6.cell? ⟨w.heap.size + 1, 3, none⟩ = some (.int .i64 o2) := (cell_blk HZ.out 3).trans rfl
 have y0' : ∀ o, (w6.alloc o).cell? ⟨w.heap.size + 1, 0, none⟩ = _ := fun o => pw_cell_below (below_alloc (Below.refl _ _) o) y0
 have y1' : ∀ o, (w6.alloc o).cell? ⟨w.heap.size + 1, 1, none⟩ = _ := fun o => pw_cell_below (below_alloc (Below.refl _ _) o) y1
 have y2' : ∀ o, (w6.alloc o).cell? ⟨w.heap.size + 1, 2, none⟩ = _ := fun o => pw_cell_below (below_alloc (Below.refl _ _) o) y2
 have y3' : ∀ o, (w6.alloc o).cell? ⟨w.heap.size + 1, 3, none⟩ = _ := fun o => pw_cell_below (below_alloc (Below.refl _ _) o) y3
 go_wp2_with fail
 have HS6 := hI (new_blk w6 (.cells #[.int .i64 (tmS r1), .int .i32 0, .string (tmL r1), .int .i64 0] 70))
 have HA6 := hI (old_blk HA.out (.cells #[.int .i64 (tmS r1), .int .i32 0, .string (tmL r1), .int .i64 0] 70))
 have HZ6 := hI (old_blk HZ.out (.cells #[.int .i64 (tmS r1), .int .i32 0, .string (tmL r1), .int .i64 0] 70))
 have E7 := E6.below (below_alloc (Below.refl _ _) (.cells #[.int .i64 (tmS r1), .int .i32 0, .string (tmL r1), .int .i64 0] 70))
 have D7 := D6.below (below_alloc (Below.refl _ _) (.cells #[.int .i64 (tmS r1), .int .i32 0, .string (tmL r1), .int .i64 0] 70))
 have G7 := G6.below (below_alloc (Below.refl _ _) (.cells #[.int .i64 (tmS r1), .int .i32 0, .string (tmL r1), .int .i64 0] 70)) G6.size
 have B7 : Below w.heap.size w (w6.alloc (.cells #[.int .i64 (tmS r1), .int .i32 0, .string (tmL r1), .int .i64 0] 70)) := HB.out.alloc HB.out.size _
 obtain ⟨NS, hNS⟩ : ∃ n, n = w6.heap.size := ⟨_, rfl⟩
 rw [← hNS] at HS6 ⊢
 clear y0 y1 y2 y3 y0' y1' y2' y3' HA HZ E6 D6 G6 HB hNS
 generalize w6.alloc _ = w7 at HS6 HA6 HZ6 E7 D7 G7 B7 ⊢
 refine (location_ z o2 l2 _).mono ?_
 rintro _ w8 ⟨rfl, hb⟩
 have HS8 := hI (below_blk hb HS6.out)
 have HA := hI (below_blk hb HA6.out)
 have HZ := hI (below_blk hb HZ6.out)
 have E8 := E7.below hb
 have D8 := D7.below hb
 have G8 := G7.below hb G7.size
 have HB := hI (B7.trans (hb.mono B7.size))
 clear hb HS6 HA6 HZ6 E7 D7 G7 B7
 go_wp2_with fail
 refine (evEnd w8 eb C P0 lo hi x.f1 gs f _ r2 E8 D8 G8 hE).mono ?_
 rw [tmo_eq]
 rintro _ w9 ⟨rfl, hb⟩
 have HS9 := hI (below_blk hb HS8.out)
 have HA9 := hI (below_blk hb HA.out)
 have HZ9 := hI (below_blk hb HZ.out)
 have HB9 := hI (HB.out.trans (hb.mono HB.out.size))
 clear hb HS8 HA HZ HB E8 D8 G8
 have x0' : ∀ ob, (w9.alloc ob).cell? ⟨w.heap.size, 0, none⟩ = some (.int .i64 a) := fun ob => (cell_blk (old_blk HA9.out ob) 0).trans rfl
 have x1' : ∀ ob, (w9.alloc ob).cell? ⟨w.heap.size, 1, none⟩ = some (.int .i32 0) := fun ob => (cell_blk (old_blk HA9.out ob) 1).trans rfl
 have x2' : ∀ ob, (w9.alloc ob).cell? ⟨w.heap.size, 2, none⟩ = some (.string l) := fun ob => (cell_blk (old_blk HA9.out ob) 2).trans rfl
 have x3' : ∀ ob, (w9.alloc ob).cell? ⟨w.heap.size, 3, none⟩ = some (.int .i64 o) := fun ob => (cell_blk (old_blk HA9.out ob) 3).trans rfl
 have s0' : ∀ ob, (w9.alloc ob).cell? ⟨NS, 0, none⟩ = some (.int .i64 (tmS r1)) := fun ob => (cell_blk (old_blk HS9.out ob) 0).trans rfl
 have s1' : ∀ ob, (w9.alloc ob).cell? ⟨NS, 1, none⟩ = some (.int .i32 0) := fun ob => (cell_blk (old_blk HS9.out ob) 1).trans rfl
 have s2' : ∀ ob, (w9.alloc ob).cell? ⟨NS, 2, none⟩ = some (.string (tmL r1)) := fun ob => (cell_blk (old_blk HS9.out ob) 2).trans rfl
 have s3' : ∀ ob, (w9.alloc ob).cell? ⟨NS, 3, none⟩ = some (.int .i64 0) := fun ob => (cell_blk (old_blk HS9.out ob) 3).trans rfl
 go_wp2_with fail
 refine (after_ (tmS r1) 0 a o (tmL r1) l _).mono ?_
 rintro _ v1 ⟨rfl, hb⟩
 have HA := hI (below_blk hb (old_blk HA9.out (.cells #[.int .i64 (tmS r2), .int .i32 0, .string (tmL r2), .int .i64 0] 70)))
 have HZ := hI (below_blk hb (old_blk HZ9.out (.cells #[.int .i64 (tmS r2), .int .i32 0, .string (tmL r2), .int .i64 0] 70)))
 have HS := hI (below_blk hb (old_blk HS9.out (.cells #[.int .i64 (tmS r2), .int .i32 0, .string (tmL r2), .int .i64 0] 70)))
 have HE := hI (below_blk hb (new_blk w9 (.cells #[.int .i64 (tmS r2), .int .i32 0, .string (tmL r2), .int .i64 0] 70)))
 have HB := hI ((HB9.out.alloc HB9.out.size _).trans (hb.mono (Nat.le_trans HB9.out.size (by simp))))
 clear hb
 have x0 : v1.cell? ⟨w.heap.size, 0, none⟩ = some (.int .i64 a) := (cell_blk HA.out 0).trans rfl
 have x1 : v1.cell? ⟨w.heap.size, 1, none⟩ = some (.int .i32 0) := (cell_blk HA.out 1).trans rfl
 have x2 : v1.cell? ⟨w.heap.size, 2, none⟩ = some (.string l) := (cell_blk HA.out 2).trans rfl
 have x3 : v1.cell? ⟨w.heap.size, 3, none⟩ = some (.int .i64 o) := (cell_blk HA.out 3).trans rfl
 have y0 : v1.cell? ⟨w.heap.size + 1, 0, none⟩ = some (.int .i64 z) := (cell_blk HZ.out 0).trans rfl
 have y1 : v1.cell? ⟨w.heap.size + 1, 1, none⟩ = some (.int .i32 0) := (cell_blk HZ.out 1).trans rfl
 have y2 : v1.cell? ⟨w.heap.size + 1, 2, none⟩ = some (.string l2) := (cell_blk HZ.out 2).trans rfl
 have y3 : v1.cell? ⟨w.heap.size + 1, 3, none⟩ = some (.int .i64 o2) := (cell_blk HZ.out 3).trans rfl
 have s0 : v1.cell? ⟨NS, 0, none⟩ = some (.int .i64 (tmS r1)) := (cell_blk HS.out 0).trans rfl
 have s1 : v1.cell? ⟨NS, 1, none⟩ = some (.int .i32 0) := (cell_blk HS.out 1).trans rfl
 have s2 : v1.cell? ⟨NS, 2, none⟩ = some (.string (tmL r1)) := (cell_blk HS.out 2).trans rfl
 have s3 : v1.cell? ⟨NS, 3, none⟩ = some (.int .i64 0) := (cell_blk HS.out 3).trans rfl
 have e0 : v1.cell? ⟨w9.heap.size, 0, none⟩ = some (.int .i64 (tmS r2)) := (cell_blk HE.out 0).trans rfl
 have e1 : v1.cell? ⟨w9.heap.size, 1, none⟩ = some (.int .i32 0) := (cell_blk HE.out 1).trans rfl
 have e2 : v1.cell? ⟨w9.heap.size, 2, none⟩ = some (.string (tmL r2)) := (cell_blk HE.out 2).trans rfl
 have e3 : v1.cell? ⟨w9.heap.size, 3, none⟩ = some (.int .i64 0) := (cell_blk HE.out 3).trans rfl
 by_cases qa1 : a < (tmS r1)
 ·have da1 : decide (a < (tmS r1)) = true := decide_eq_true qa1
  go_wp2_with fail
  refine (isZero_ z o2 l2 _).mono ?_
  rintro _ v2 ⟨rfl, hb⟩
  have HA := hI (below_blk hb HA.out)
  have HZ := hI (below_blk hb HZ.out)
  have HS := hI (below_blk hb HS.out)
  have HE := hI (below_blk hb HE.out)
  have HB := hI (HB.out.trans (hb.mono HB.out.size))
  clear hb x0 x1 x2 x3 y0 y1 y2 y3 s0 s1 s2 s3 e0 e1 e2 e3
  have x0 : v2.cell? ⟨w.heap.size, 0, none⟩ = some (.int .i64 a) := (cell_blk HA.out 0).trans rfl
  have x1 : v2.cell? ⟨w.heap.size, 1, none⟩ = some (.int .i32 0) := (cell_blk HA.out 1).trans rfl
  have x2 : v2.cell? ⟨w.heap.size, 2, none⟩ = some (.string l) := (cell_blk HA.out 2).trans rfl
  have x3 : v2.cell? ⟨w.heap.size, 3, none⟩ = some (.int .i64 o) := (cell_blk HA.out 3).trans rfl
  have y0 : v2.cell? ⟨w.heap.size + 1, 0, none⟩ = some (.int .i64 z) := (cell_blk HZ.out 0).trans rfl
  have y1 : v2.cell? ⟨w.heap.size + 1, 1, none⟩ = some (.int .i32 0) := (cell_blk HZ.out 1).trans rfl
  have y2 : v2.cell? ⟨w.heap.size + 1, 2, none⟩ = some (.string l2) := (cell_blk HZ.out 2).trans rfl
  have y3 : v2.cell? ⟨w.heap.size + 1, 3, none⟩ = some (.int .i64 o2) := (cell_blk HZ.out 3).trans rfl
  have s0 : v2.cell? ⟨NS, 0, none⟩ = some (.int .i64 (tmS r1)) := (cell_blk HS.out 0).trans rfl
  have s1 : v2.cell? ⟨NS, 1, none⟩ = some (.int .i32 0) := (cell_blk HS.out 1).trans rfl
  have s2 : v2.cell? ⟨NS, 2, none⟩ = some (.string (tmL r1)) := (cell_blk HS.out 2).trans rfl
  have s3 : v2.cell? ⟨NS, 3, none⟩ = some (.int .i64 0) := (cell_blk HS.out 3).trans rfl
  have e0 : v2.cell? ⟨w9.heap.size, 0, none⟩ = some (.int .i64 (tmS r2)) := (cell_blk HE.out 0).trans rfl
  have e1 : v2.cell? ⟨w9.heap.size, 1, none⟩ = some (.int .i32 0) := (cell_blk HE.out 1).trans rfl
  have e2 : v2.cell? ⟨w9.heap.size, 2, none⟩ = some (.string (tmL r2)) := (cell_blk HE.out 2).trans rfl
  have e3 : v2.cell? ⟨w9.heap.size, 3, none⟩ = some (.int .i64 0) := (cell_blk HE.out 3).trans rfl
  by_cases qz : z = 0
  ·have dz : decide (z = 0) = true := decide_eq_true qz
   have hV : Hid (evR a z (tmS r1) (tmS r2) = true) := hI (by unfold evR; simp [qa1, qz] <;> intros <;> omega)
   clear x0 x1 x2 x3 y0 y1 y2 y3 s0 s1 s2 s3 e0 e1 e2 e3
   go_wp2
   exact bodyPost_ret (v := .tuple #[.bool true, .nilIface]) (by simp [results, Tryz.results110, go_sem]) rfl ⟨by rw [hV.out], HB.out⟩
  ·have dz : decide (z = 0) = false := decide_eq_false qz
   go_wp2_with fail
   refine (before_ (tmS r1) 0 z o2 (tmL r1) l2 _).mono ?_
   rintro _ v3 ⟨rfl, hb⟩
   have HA := hI (below_blk hb HA.out)
   have HZ := hI (below_blk hb HZ.out)
   have HS := hI (below_blk hb HS.out)
   have HE := hI (below_blk hb HE.out)
   have HB := hI (HB.out.trans (hb.mono HB.out.size))
   clear hb x0 x1 x2 x3 y0 y1 y2 y3 s0 s1 s2 s3 e0 e1 e2 e3
   have x0 : v3.cell? ⟨w.heap.size, 0, none⟩ = some (.int .i64 a) := (cell_blk HA.out 0).trans rfl
   have x1 : v3.cell? ⟨w.heap.size, 1, none⟩ = some (.int .i32 0) := (cell_blk HA.out 1).trans rfl
   have x2 : v3.cell? ⟨w.heap.size, 2, none⟩ = some (.string l) := (cell_blk HA.out 2).trans rfl
   have x3 : v3.cell? ⟨w.heap.size, 3, none⟩ = some (.int .i64 o) := (cell_blk HA.out 3).trans rfl
   have y0 : v3.cell? ⟨w.heap.size + 1, 0, none⟩ = some (.int .i64 z) := (cell_blk HZ.out 0).trans rfl
   have y1 : v3.cell? ⟨w.heap.size + 1, 1, none⟩ = some (.int .i32 0) := (cell_blk HZ.out 1).trans rfl
   have y2 : v3.cell? ⟨w.heap.size + 1, 2, none⟩ = some (.string l2) := (cell_blk HZ.out 2).trans rfl
   have y3 : v3.cell? ⟨w.heap.size + 1, 3, none⟩ = some (.int .i64 o2) := (cell_blk HZ.out 3).trans rfl
   have s0 : v3.cell? ⟨NS, 0, none⟩ = some (.int .i64 (tmS r1)) := (cell_blk HS.out 0).trans rfl
   have s1 : v3.cell? ⟨NS, 1, none⟩ = some (.int .i32 0) := (cell_blk HS.out 1).trans rfl
   have s2 : v3.cell? ⟨NS, 2, none⟩ = some (.string (tmL r1)) := (cell_blk HS.out 2).trans rfl
   have s3 : v3.cell? ⟨NS, 3, none⟩ = some (.int .i64 0) := (cell_blk HS.out 3).trans rfl
   have e0 : v3.cell? ⟨w9.heap.size, 0, none⟩ = some (.int .i64 (tmS r2)) := (cell_blk HE.out 0).trans rfl
   have e1 : v3.cell? ⟨w9.heap.size, 1, none⟩ = some (.int .i32 0) := (cell_blk HE.out 1).trans rfl
   have e2 : v3.cell? ⟨w9.heap.size, 2, none⟩ = some (.string (tmL r2)) := (cell_blk HE.out 2).trans rfl
   have e3 : v3.cell? ⟨w9.heap.size, 3, none⟩ = some (.int .i64 0) := (cell_blk HE.out 3).trans rfl
   by_cases qb1 : (tmS r1) < z
   ·have db1 : decide ((tmS r1) < z) = true := decide_eq_true qb1
    have hV : Hid (evR a z (tmS r1) (tmS r2) = true) := hI (by unfold evR; simp [qa1, qz, qb1] <;> intros <;> omega)
    clear x0 x1 x2 x3 y0 y1 y2 y3 s0 s1 s2 s3 e0 e1 e2 e3
    go_wp2
    exact bodyPost_ret (v := .tuple #[.bool true, .nilIface]) (by simp [results, Tryz.results110, go_sem]) rfl ⟨by rw [hV.out], HB.out⟩
   ·have db1 : decide ((tmS r1) < z) = false := decide_eq_false qb1
    go_wp2_with fail
    refine (after_ (tmS r2) 0 a o (tmL r2) l _).mono ?_
    rintro _ v4 ⟨rfl, hb⟩
    have HA := hI (below_blk hb HA.out)
    have HZ := hI (below_blk hb HZ.out)
    have HS := hI (below_blk hb HS.out)
    have HE := hI (below_blk hb HE.out)
    have HB := hI (HB.out.trans (hb.mono HB.out.size))
    clear hb x0 x1 x2 x3 y0 y1 y2 y3 s0 s1 s2 s3 e0 e1 e2 e3
    have x0 : v4.cell? ⟨w.heap.size, 0, none⟩ = some (.int .i64 a) := (cell_blk HA.out 0).trans rfl
    have x1 : v4.cell? ⟨w.heap.size, 1, none⟩ = some (.int .i32 0) := (cell_blk HA.out 1).trans rfl
    have x2 : v4.cell? ⟨w.heap.size, 2, none⟩ = some (.string l) := (cell_blk HA.out 2).trans rfl
    have x3 : v4.cell? ⟨w.heap.size, 3, none⟩ = some (.int .i64 o) := (cell_blk HA.out 3).trans rfl
    have y0 : v4.cell? ⟨w.heap.size + 1, 0, none⟩ = some (.int .i64 z) := (cell_blk HZ.out 0).trans rfl
    have y1 : v4.cell? ⟨w.heap.size + 1, 1, none⟩ = some (.int .i32 0) := (cell_blk HZ.out 1).trans rfl
    have y2 : v4.cell? ⟨w.heap.size + 1, 2, none⟩ = some (.string l2) := (cell_blk HZ.out 2).trans rfl
    have y3 : v4.cell? ⟨w.heap.size + 1, 3, none⟩ = some (.int .i64 o2) := (cell_blk HZ.out 3).trans rfl
    have s0 : v4.cell? ⟨NS, 0, none⟩ = some (.int .i64 (tmS r1)) := (cell_blk HS.out 0).trans rfl
    have s1 : v4.cell? ⟨NS, 1, none⟩ = some (.int .i32 0) := (cell_blk HS.out 1).trans rfl
    have s2 : v4.cell? ⟨NS, 2, none⟩ = some (.string (tmL r1)) := (cell_blk HS.out 2).trans rfl
    have s3 : v4.cell? ⟨NS, 3, none⟩ = some (.int .i64 0) := (cell_blk HS.out 3).trans rfl
    have e0 : v4.cell? ⟨w9.heap.size, 0, none⟩ = some (.int .i64 (tmS r2)) := (cell_blk HE.out 0).trans rfl
    have e1 : v4.cell? ⟨w9.heap.size, 1, none⟩ = some (.int .i32 0) := (cell_blk HE.out 1).trans rfl
    have e2 : v4.cell? ⟨w9.heap.size, 2, none⟩ = some (.string (tmL r2)) := (cell_blk HE.out 2).trans rfl
    have e3 : v4.cell? ⟨w9.heap.size, 3, none⟩ = some (.int .i64 0) := (cell_blk HE.out 3).trans rfl
    by_cases qa2 : a < (tmS r2)
    ·have da2 : decide (a < (tmS r2)) = true := decide_eq_true qa2
     go_wp2_with fail
     refine (isZero_ z o2 l2 _).mono ?_
     rintro _ v5 ⟨rfl, hb⟩
     have HA := hI (below_blk hb HA.out)
     have HZ := hI (below_blk hb HZ.out)
     have HS := hI (below_blk hb HS.out)
     have HE := hI (below_blk hb HE.out)
     have HB := hI (HB.out.trans (hb.mono HB.out.size))
     clear hb x0 x1 x2 x3 y0 y1 y2 y3 s0 s1 s2 s3 e0 e1 e2 e3
     have x0 : v5.cell? ⟨w.heap.size, 0, none⟩ = some (.int .i64 a) := (cell_blk HA.out 0).trans rfl
     have x1 : v5.cell? ⟨w.heap.size, 1, none⟩ = some (.int .i32 0) := (cell_blk HA.out 1).trans rfl
     have x2 : v5.cell? ⟨w.heap.size, 2, none⟩ = some (.string l) := (cell_blk HA.out 2).trans rfl
     have x3 : v5.cell? ⟨w.heap.size, 3, none⟩ = some (.int .i64 o) := (cell_blk HA.out 3).trans rfl
     have y0 : v5.cell? ⟨w.heap.size + 1, 0, none⟩ = some (.int .i64 z) := (cell_blk HZ.out 0).trans rfl
     have y1 : v5.cell? ⟨w.heap.size + 1, 1, none⟩ = some (.int .i32 0) := (cell_blk HZ.out 1).trans rfl
     have y2 : v5.cell? ⟨w.heap.size + 1, 2, none⟩ = some (.string l2) := (cell_blk HZ.out 2).trans rfl
     have y3 : v5.cell? ⟨w.heap.size + 1, 3, none⟩ = some (.int .i64 o2) := (cell_blk HZ.out 3).trans rfl
     have s0 : v5.cell? ⟨NS, 0, none⟩ = some (.int .i64 (tmS r1)) := (cell_blk HS.out 0).trans rfl
     have s1 : v5.cell? ⟨NS, 1, none⟩ = some (.int .i32 0) := (cell_blk HS.out 1).trans rfl
     have s2 : v5.cell? ⟨NS, 2, none⟩ = some (.string (tmL r1)) := (cell_blk HS.out 2).trans rfl
     have s3 : v5.cell? ⟨NS, 3, none⟩ = some (.int .i64 0) := (cell_blk HS.out 3).trans rfl
     have e0 : v5.cell? ⟨w9.heap.size, 0, none⟩ = some (.int .i64 (tmS r2)) := (cell_blk HE.out 0).trans rfl
     have e1 : v5.cell? ⟨w9.heap.size, 1, none⟩ = some (.int .i32 0) := (cell_blk HE.out 1).trans rfl
     have e2 : v5.cell? ⟨w9.heap.size, 2, none⟩ = some (.string (tmL r2)) := (cell_blk HE.out 2).trans rfl
     have e3 : v5.cell? ⟨w9.heap.size, 3, none⟩ = some (.int .i64 0) := (cell_blk HE.out 3).trans rfl
     go_wp2_with fail
     refine (before_ (tmS r2) 0 z o2 (tmL r2) l2 _).mono ?_
     rintro _ v6 ⟨rfl, hb⟩
     have HA := hI (below_blk hb HA.out)
     have HZ := hI (below_blk hb HZ.out)
     have HS := hI (below_blk hb HS.out)
     have HE := hI (below_blk hb HE.out)
     have HB := hI (HB.out.trans (hb.mono HB.out.size))
     clear hb x0 x1 x2 x3 y0 y1 y2 y3 s0 s1 s2 s3 e0 e1 e2 e3
     have x0 : v6.cell? ⟨w.heap.size, 0, none⟩ = some (.int .i64 a) := (cell_blk HA.out 0).trans rfl
     have x1 : v6.cell? ⟨w.heap.size, 1, none⟩ = some (.int .i32 0) := (cell_blk HA.out 1).trans rfl
     have x2 : v6.cell? ⟨w.heap.size, 2, none⟩ = some (.string l) := (cell_blk HA.out 2).trans rfl
     have x3 : v6.cell? ⟨w.heap.size, 3, none⟩ = some (.int .i64 o) := (cell_blk HA.out 3).trans rfl
     have y0 : v6.cell? ⟨w.heap.size + 1, 0, none⟩ = some (.int .i64 z) := (cell_blk HZ.out 0).trans rfl
     have y1 : v6.cell? ⟨w.heap.size + 1, 1, none⟩ = some (.int .i32 0) := (cell_blk HZ.out 1).trans rfl
     have y2 : v6.cell? ⟨w.heap.size + 1, 2, none⟩ = some (.string l2) := (cell_blk HZ.out 2).trans rfl
     have y3 : v6.cell? ⟨w.heap.size + 1, 3, none⟩ = some (.int .i64 o2) := (cell_blk HZ.out 3).trans rfl
     have s0 : v6.cell? ⟨NS, 0, none⟩ = some (.int .i64 (tmS r1)) := (cell_blk HS.out 0).trans rfl
     have s1 : v6.cell? ⟨NS, 1, none⟩ = some (.int .i32 0) := (cell_blk HS.out 1).trans rfl
     have s2 : v6.cell? ⟨NS, 2, none⟩ = some (.string (tmL r1)) := (cell_blk HS.out 2).trans rfl
     have s3 : v6.cell? ⟨NS, 3, none⟩ = some (.int .i64 0) := (cell_blk HS.out 3).trans rfl
     have e0 : v6.cell? ⟨w9.heap.size, 0, none⟩ = some (.int .i64 (tmS r2)) := (cell_blk HE.out 0).trans rfl
     have e1 : v6.cell? ⟨w9.heap.size, 1, none⟩ = some (.int .i32 0) := (cell_blk HE.out 1).trans rfl
     have e2 : v6.cell? ⟨w9.heap.size, 2, none⟩ = some (.string (tmL r2)) := (cell_blk HE.out 2).trans rfl
     have e3 : v6.cell? ⟨w9.heap.size, 3, none⟩ = some (.int .i64 0) := (cell_blk HE.out 3).trans rfl
     by_cases qb2 : (tmS r2) < z
     ·have db2 : decide ((tmS r2) < z) = true := decide_eq_true qb2
      have hV : Hid (evR a z (tmS r1) (tmS r2) = true) := hI (by unfold evR; simp [qa1, qz, qb1, qa2, qb2] <;> intros <;> omega)
      clear x0 x1 x2 x3 y0 y1 y2 y3 s0 s1 s2 s3 e0 e1 e2 e3
      go_wp2
      exact bodyPost_ret (v := .tuple #[.bool true, .nilIface]) (by simp [results, Tryz.results110, go_sem]) rfl ⟨by rw [hV.out], HB.out⟩
     ·have db2 : decide ((tmS r2) < z) = false := decide_eq_false qb2
      go_wp2_with fail
      refine (before_ (tmS r1) 0 a o (tmL r1) l _).mono ?_
      rintro _ v7 ⟨rfl, hb⟩
      have HA := hI (below_blk hb HA.out)
      have HZ := hI (below_blk hb HZ.out)
      have HS := hI (below_blk hb HS.out)
      have HE := hI (below_blk hb HE.out)
      have HB := hI (HB.out.trans (hb.mono HB.out.size))
      clear hb x0 x1 x2 x3 y0 y1 y2 y3 s0 s1 s2 s3 e0 e1 e2 e3
      have x0 : v7.cell? ⟨w.heap.size, 0, none⟩ = some (.int .i64 a) := (cell_blk HA.out 0).trans rfl
      have x1 : v7.cell? ⟨w.heap.size, 1, none⟩ = some (.int .i32 0) := (cell_blk HA.out 1).trans rfl
      have x2 : v7.cell? ⟨w.heap.size, 2, none⟩ = some (.string l) := (cell_blk HA.out 2).trans rfl
      have x3 : v7.cell? ⟨w.heap.size, 3, none⟩ = some (.int .i64 o) := (cell_blk HA.out 3).trans rfl
      have y0 : v7.cell? ⟨w.heap.size + 1, 0, none⟩ = some (.int .i64 z) := (cell_blk HZ.out 0).trans rfl
      have y1 : v7.cell? ⟨w.heap.size + 1, 1, none⟩ = some (.int .i32 0) := (cell_blk HZ.out 1).trans rfl
      have y2 : v7.cell? ⟨w.heap.size + 1, 2, none⟩ = some (.string l2) := (cell_blk HZ.out 2).trans rfl
      have y3 : v7.cell? ⟨w.heap.size + 1, 3, none⟩ = some (.int .i64 o2) := (cell_blk HZ.out 3).trans rfl
      have s0 : v7.cell? ⟨NS, 0, none⟩ = some (.int .i64 (tmS r1)) := (cell_blk HS.out 0).trans rfl
      have s1 : v7.cell? ⟨NS, 1, none⟩ = some (.int .i32 0) := (cell_blk HS.out 1).trans rfl
      have s2 : v7.cell? ⟨NS, 2, none⟩ = some (.string (tmL r1)) := (cell_blk HS.out 2).trans rfl
      have s3 : v7.cell? ⟨NS, 3, none⟩ = some (.int .i64 0) := (cell_blk HS.out 3).trans rfl
      have e0 : v7.cell? ⟨w9.heap.size, 0, none⟩ = some (.int .i64 (tmS r2)) := (cell_blk HE.out 0).trans rfl
      have e1 : v7.cell? ⟨w9.heap.size, 1, none⟩ = some (.int .i32 0) := (cell_blk HE.out 1).trans rfl
      have e2 : v7.cell? ⟨w9.heap.size, 2, none⟩ = some (.string (tmL r2)) := (cell_blk HE.out 2).trans rfl
      have e3 : v7.cell? ⟨w9.heap.size, 3, none⟩ = some (.int .i64 0) := (cell_blk HE.out 3).trans rfl
      by_cases q5 : (tmS r1) < a
      ·have d5 : decide ((tmS r1) < a) = true := decide_eq_true q5
       go_wp2_with fail
       refine (isZero_ z o2 l2 _).mono ?_
       rintro _ v8 ⟨rfl, hb⟩
       have HA := hI (below_blk hb HA.out)
       have HZ := hI (below_blk hb HZ.out)
       have HS := hI (below_blk hb HS.out)
       have HE := hI (below_blk hb HE.out)
       have HB := hI (HB.out.trans (hb.mono HB.out.size))
       clear hb x0 x1 x2 x3 y0 y1 y2 y3 s0 s1 s2 s3 e0 e1 e2 e3
       have x0 : v8.cell? ⟨w.heap.size, 0, none⟩ = some (.int .i64 a) := (cell_blk HA.out 0).trans rfl
       have x1 : v8.cell? ⟨w.heap.size, 1, none⟩ = some (.int .i32 0) := (cell_blk HA.out 1).trans rfl
       have x2 : v8.cell? ⟨w.heap.size, 2, none⟩ = some (.string l) := (cell_blk HA.out 2).trans rfl
       have x3 : v8.cell? ⟨w.heap.size, 3, none⟩ = some (.int .i64 o) := (cell_blk HA.out 3).trans rfl
       have y0 : v8.cell? ⟨w.heap.size + 1, 0, none⟩ = some (.int .i64 z) := (cell_blk HZ.out 0).trans rfl
       have y1 : v8.cell? ⟨w.heap.size + 1, 1, none⟩ = some (.int .i32 0) := (cell_blk HZ.out 1).trans rfl
       have y2 : v8.cell? ⟨w.heap.size + 1, 2, none⟩ = some (.string l2) := (cell_blk HZ.out 2).trans rfl
       have y3 : v8.cell? ⟨w.heap.size + 1, 3, none⟩ = some (.int .i64 o2) := (cell_blk HZ.out 3).trans rfl
       have s0 : v8.cell? ⟨NS, 0, none⟩ = some (.int .i64 (tmS r1)) := (cell_blk HS.out 0).trans rfl
       have s1 : v8.cell? ⟨NS, 1, none⟩ = some (.int .i32 0) := (cell_blk HS.out 1).trans rfl
       have s2 : v8.cell? ⟨NS, 2, none⟩ = some (.string (tmL r1)) := (cell_blk HS.out 2).trans rfl
       have s3 : v8.cell? ⟨NS, 3, none⟩ = some (.int .i64 0) := (cell_blk HS.out 3).trans rfl
       have e0 : v8.cell? ⟨w9.heap.size, 0, none⟩ = some (.int .i64 (tmS r2)) := (cell_blk HE.out 0).trans rfl
       have e1 : v8.cell? ⟨w9.heap.size, 1, none⟩ = some (.int .i32 0) := (cell_blk HE.out 1).trans rfl
       have e2 : v8.cell? ⟨w9.heap.size, 2, none⟩ = some (.string (tmL r2)) := (cell_blk HE.out 2).trans rfl
       have e3 : v8.cell? ⟨w9.heap.size, 3, none⟩ = some (.int .i64 0) := (cell_blk HE.out 3).trans rfl
       go_wp2_with fail
       refine (after_ (tmS r2) 0 z o2 (tmL r2) l2 _).mono ?_
       rintro _ v9 ⟨rfl, hb⟩
       have HA := hI (below_blk hb HA.out)
       have HZ := hI (below_blk hb HZ.out)
       have HS := hI (below_blk hb HS.out)
       have HE := hI (below_blk hb HE.out)
       have HB := hI (HB.out.trans (hb.mono HB.out.size))
       clear hb x0 x1 x2 x3 y0 y1 y2 y3 s0 s1 s2 s3 e0 e1 e2 e3
       have x0 : v9.cell? ⟨w.heap.size, 0, none⟩ = some (.int .i64 a) := (cell_blk HA.out 0).trans rfl
       have x1 : v9.cell? ⟨w.heap.size, 1, none⟩ = some (.int .i32 0) := (cell_blk HA.out 1).trans rfl
       have x2 : v9.cell? ⟨w.heap.size, 2, none⟩ = some (.string l) := (cell_blk HA.out 2).trans rfl
       have x3 : v9.cell? ⟨w.heap.size, 3, none⟩ = some (.int .i64 o) := (cell_blk HA.out 3).trans rfl
       have y0 : v9.cell? ⟨w.heap.size + 1, 0, none⟩ = some (.int .i64 z) := (cell_blk HZ.out 0).trans rfl
       have y1 : v9.cell? ⟨w.heap.size + 1, 1, none⟩ = some (.int .i32 0) := (cell_blk HZ.out 1).trans rfl
       have y2 : v9.cell? ⟨w.heap.size + 1, 2, none⟩ = some (.string l2) := (cell_blk HZ.out 2).trans rfl
       have y3 : v9.cell? ⟨w.heap.size + 1, 3, none⟩ = some (.int .i64 o2) := (cell_blk HZ.out 3).trans rfl
       have s0 : v9.cell? ⟨NS, 0, none⟩ = some (.int .i64 (tmS r1)) := (cell_blk HS.out 0).trans rfl
       have s1 : v9.cell? ⟨NS, 1, none⟩ = some (.int .i32 0) := (cell_blk HS.out 1).trans rfl
       have s2 : v9.cell? ⟨NS, 2, none⟩ = some (.string (tmL r1)) := (cell_blk HS.out 2).trans rfl
       have s3 : v9.cell? ⟨NS, 3, none⟩ = some (.int .i64 0) := (cell_blk HS.out 3).trans rfl
       have e0 : v9.cell? ⟨w9.heap.size, 0, none⟩ = some (.int .i64 (tmS r2)) := (cell_blk HE.out 0).trans rfl
       have e1 : v9.cell? ⟨w9.heap.size, 1, none⟩ = some (.int .i32 0) := (cell_blk HE.out 1).trans rfl
       have e2 : v9.cell? ⟨w9.heap.size, 2, none⟩ = some (.string (tmL r2)) := (cell_blk HE.out 2).trans rfl
       have e3 : v9.cell? ⟨w9.heap.size, 3, none⟩ = some (.int .i64 0) := (cell_blk HE.out 3).trans rfl
       by_cases q6 : z < (tmS r2)
       ·have d6 : decide (z < (tmS r2)) = true := decide_eq_true q6
        have hV : Hid (evR a z (tmS r1) (tmS r2) = true) := hI (by unfold evR; simp [qa1, qz, qb1, qa2, qb2, q5, q6] <;> intros <;> omega)
        clear x0 x1 x2 x3 y0 y1 y2 y3 s0 s1 s2 s3 e0 e1 e2 e3
        go_wp2
        exact bodyPost_ret (v := .tuple #[.bool true, .nilIface]) (by simp [results, Tryz.results110, go_sem]) rfl ⟨by rw [hV.out], HB.out⟩
       ·have d6 : decide (z < (tmS r2)) = false := decide_eq_false q6
        have hV : Hid (evR a z (tmS r1) (tmS r2) = false) := hI (by unfold evR; simp [qa1, qz, qb1, qa2, qb2, q5, q6] <;> intros <;> omega)
        clear x0 x1 x2 x3 y0 y1 y2 y3 s0 s1 s2 s3 e0 e1 e2 e3
        go_wp2
        exact bodyPost_ret (v := .tuple #[.bool false, .nilIface]) (by simp [results, Tryz.results110, go_sem]) rfl ⟨by rw [hV.out], HB.out⟩
      ·have d5 : decide ((tmS r1) < a) = false := decide_eq_false q5
       have hV : Hid (evR a z (tmS r1) (tmS r2) = false) := hI (by unfold evR; simp [qa1, qz, qb1, qa2, qb2, q5] <;> intros <;> omega)
       clear x0 x1 x2 x3 y0 y1 y2 y3 s0 s1 s2 s3 e0 e1 e2 e3
       go_wp2
       exact bodyPost_ret (v := .tuple #[.bool false, .nilIface]) (by simp [results, Tryz.results110, go_sem]) rfl ⟨by rw [hV.out], HB.out⟩
    ·have da2 : decide (a < (tmS r2)) = false := decide_eq_false qa2
     go_wp2_with fail
     refine (before_ (tmS r1) 0 a o (tmL r1) l _).mono ?_
     rintro _ v10 ⟨rfl, hb⟩
     have HA := hI (below_blk hb HA.out)
     have HZ := hI (below_blk hb HZ.out)
     have HS := hI (below_blk hb HS.out)
     have HE := hI (below_blk hb HE.out)
     have HB := hI (HB.out.trans (hb.mono HB.out.size))
     clear hb x0 x1 x2 x3 y0 y1 y2 y3 s0 s1 s2 s3 e0 e1 e2 e3
     have x0 : v10.cell? ⟨w.heap.size, 0, none⟩ = some (.int .i64 a) := (cell_blk HA.out 0).trans rfl
     have x1 : v10.cell? ⟨w.heap.size, 1, none⟩ = some (.int .i32 0) := (cell_blk HA.out 1).trans rfl
     have x2 : v10.cell? ⟨w.heap.size, 2, none⟩ = some (.string l) := (cell_blk HA.out 2).trans rfl
     have x3 : v10.cell? ⟨w.heap.size, 3, none⟩ = some (.int .i64 o) := (cell_blk HA.out 3).trans rfl
     have y0 : v10.cell? ⟨w.heap.size + 1, 0, none⟩ = some (.int .i64 z) := (cell_blk HZ.out 0).trans rfl
     have y1 : v10.cell? ⟨w.heap.size + 1, 1, none⟩ = some (.int .i32 0) := (cell_blk HZ.out 1).trans rfl
     have y2 : v10.cell? ⟨w.heap.size + 1, 2, none⟩ = some (.string l2) := (cell_blk HZ.out 2).trans rfl
     have y3 : v10.cell? ⟨w.heap.size + 1, 3, none⟩ = some (.int .i64 o2) := (cell_blk HZ.out 3).trans rfl
     have s0 : v10.cell? ⟨NS, 0, none⟩ = some (.int .i64 (tmS r1)) := (cell_blk HS.out 0).trans rfl
     have s1 : v10.cell? ⟨NS, 1, none⟩ = some (.int .i32 0) := (cell_blk HS.out 1).trans rfl
     have s2 : v10.cell? ⟨NS, 2, none⟩ = some (.string (tmL r1)) := (cell_blk HS.out 2).trans rfl
     have s3 : v10.cell? ⟨NS, 3, none⟩ = some (.int .i64 0) := (cell_blk HS.out 3).trans rfl
     have e0 : v10.cell? ⟨w9.heap.size, 0, none⟩ = some (.int .i64 (tmS r2)) := (cell_blk HE.out 0).trans rfl
     have e1 : v10.cell? ⟨w9.heap.size, 1, none⟩ = some (.int .i32 0) := (cell_blk HE.out 1).trans rfl
     have e2 : v10.cell? ⟨w9.heap.size, 2, none⟩ = some (.string (tmL r2)) := (cell_blk HE.out 2).trans rfl
     have e3 : v10.cell? ⟨w9.heap.size, 3, none⟩ = some (.int .i64 0) := (cell_blk HE.out 3).trans rfl
     by_cases q5 : (tmS r1) < a
     ·have d5 : decide ((tmS r1) < a) = true := decide_eq_true q5
      go_wp2_with fail
      refine (isZero_ z o2 l2 _).mono ?_
      rintro _ v11 ⟨rfl, hb⟩
      have HA := hI (below_blk hb HA.out)
      have HZ := hI (below_blk hb HZ.out)
      have HS := hI (below_blk hb HS.out)
      have HE := hI (below_blk hb HE.out)
      have HB := hI (HB.out.trans (hb.mono HB.out.size))
      clear hb x0 x1 x2 x3 y0 y1 y2 y3 s0 s1 s2 s3 e0 e1 e2 e3
      have x0 : v11.cell? ⟨w.heap.size, 0, none⟩ = some (.int .i64 a) := (cell_blk HA.out 0).trans rfl
      have x1 : v11.cell? ⟨w.heap.size, 1, none⟩ = some (.int .i32 0) := (cell_blk HA.out 1).trans rfl
      have x2 : v11.cell? ⟨w.heap.size, 2, none⟩ = some (.string l) := (cell_blk HA.out 2).trans rfl
      have x3 : v11.cell? ⟨w.heap.size, 3, none⟩ = some (.int .i64 o) := (cell_blk HA.out 3).trans rfl
      have y0 : v11.cell? ⟨w.heap.size + 1, 0, none⟩ = some (.int .i64 z) := (cell_blk HZ.out 0).trans rfl
      have y1 : v11.cell? ⟨w.heap.size + 1, 1, none⟩ = some (.int .i32 0) := (cell_blk HZ.out 1).trans rfl
      have y2 : v11.cell? ⟨w.heap.size + 1, 2, none⟩ = some (.string l2) := (cell_blk HZ.out 2).trans rfl
      have y3 : v11.cell? ⟨w.heap.size + 1, 3, none⟩ = some (.int .i64 o2) := (cell_blk HZ.out 3).trans rfl
      have s0 : v11.cell? ⟨NS, 0, none⟩ = some (.int .i64 (tmS r1)) := (cell_blk HS.out 0).trans rfl
      have s1 : v11.cell? ⟨NS, 1, none⟩ = some (.int .i32 0) := (cell_blk HS.out 1).trans rfl
      have s2 : v11.cell? ⟨NS, 2, none⟩ = some (.string (tmL r1)) := (cell_blk HS.out 2).trans rfl
      have s3 : v11.cell? ⟨NS, 3, none⟩ = some (.int .i64 0) := (cell_blk HS.out 3).trans rfl
      have e0 : v11.cell? ⟨w9.heap.size, 0, none⟩ = some (.int .i64 (tmS r2)) := (cell_blk HE.out 0).trans rfl
      have e1 : v11.cell? ⟨w9.heap.size, 1, none⟩ = some (.int .i32 0) := (cell_blk HE.out 1).trans rfl
      have e2 : v11.cell? ⟨w9.heap.size, 2, none⟩ = some (.string (tmL r2)) := (cell_blk HE.out 2).trans rfl
      have e3 : v11.cell? ⟨w9.heap.size, 3, none⟩ = some (.int .i64 0) := (cell_blk HE.out 3).trans rfl
      go_wp2_with fail
      refine (after_ (tmS r2) 0 z o2 (tmL r2) l2 _).mono ?_
      rintro _ v12 ⟨rfl, hb⟩
      have HA := hI (below_blk hb HA.out)
      have HZ := hI (below_blk hb HZ.out)
      have HS := hI (below_blk hb HS.out)
      have HE := hI (below_blk hb HE.out)
      have HB := hI (HB.out.trans (hb.mono HB.out.size))
      clear hb x0 x1 x2 x3 y0 y1 y2 y3 s0 s1 s2 s3 e0 e1 e2 e3
      have x0 : v12.cell? ⟨w.heap.size, 0, none⟩ = some (.int .i64 a) := (cell_blk HA.out 0).trans rfl
      have x1 : v12.cell? ⟨w.heap.size, 1, none⟩ = some (.int .i32 0) := (cell_blk HA.out 1).trans rfl
      have x2 : v12.cell? ⟨w.heap.size, 2, none⟩ = some (.string l) := (cell_blk HA.out 2).trans rfl
      have x3 : v12.cell? ⟨w.heap.size, 3, none⟩ = some (.int .i64 o) := (cell_blk HA.out 3).trans rfl
      have y0 : v12.cell? ⟨w.heap.size + 1, 0, none⟩ = some (.int .i64 z) := (cell_blk HZ.out 0).trans rfl
      have y1 : v12.cell? ⟨w.heap.size + 1, 1, none⟩ = some (.int .i32 0) := (cell_blk HZ.out 1).trans rfl
      have y2 : v12.cell? ⟨w.heap.size + 1, 2, none⟩ = some (.string l2) := (cell_blk HZ.out 2).trans rfl
      have y3 : v12.cell? ⟨w.heap.size + 1, 3, none⟩ = some (.int .i64 o2) := (cell_blk HZ.out 3).trans rfl
      have s0 : v12.cell? ⟨NS, 0, none⟩ = some (.int .i64 (tmS r1)) := (cell_blk HS.out 0).trans rfl
      have s1 : v12.cell? ⟨NS, 1, none⟩ = some (.int .i32 0) := (cell_blk HS.out 1).trans rfl
      have s2 : v12.cell? ⟨NS, 2, none⟩ = some (.string (tmL r1)) := (cell_blk HS.out 2).trans rfl
      have s3 : v12.cell? ⟨NS, 3, none⟩ = some (.int .i64 0) := (cell_blk HS.out 3).trans rfl
      have e0 : v12.cell? ⟨w9.heap.size, 0, none⟩ = some (.int .i64 (tmS r2)) := (cell_blk HE.out 0).trans rfl
      have e1 : v12.cell? ⟨w9.heap.size, 1, none⟩ = some (.int .i32 0) := (cell_blk HE.out 1).trans rfl
      have e2 : v12.cell? ⟨w9.heap.size, 2, none⟩ = some (.string (tmL r2)) := (cell_blk HE.out 2).trans rfl
      have e3 : v12.cell? ⟨w9.heap.size, 3, none⟩ = some (.int .i64 0) := (cell_blk HE.out 3).trans rfl
      by_cases q6 : z < (tmS r2)
      ·have d6 : decide (z < (tmS r2)) = true := decide_eq_true q6
       have hV : Hid (evR a z (tmS r1) (tmS r2) = true) := hI (by unfold evR; simp [qa1, qz, qb1, qa2, q5, q6] <;> intros <;> omega)
       clear x0 x1 x2 x3 y0 y1 y2 y3 s0 s1 s2 s3 e0 e1 e2 e3
       go_wp2
       exact bodyPost_ret (v := .tuple #[.bool true, .nilIface]) (by simp [results, Tryz.results110, go_sem]) rfl ⟨by rw [hV.out], HB.out⟩
      ·have d6 : decide (z < (tmS r2)) = false := decide_eq_false q6
       have hV : Hid (evR a z (tmS r1) (tmS r2) = false) := hI (by unfold evR; simp [qa1, qz, qb1, qa2, q5, q6] <;> intros <;> omega)
       clear x0 x1 x2 x3 y0 y1 y2 y3 s0 s1 s2 s3 e0 e1 e2 e3
       go_wp2
       exact bodyPost_ret (v := .tuple #[.bool false, .nilIface]) (by simp [results, Tryz.results110, go_sem]) rfl ⟨by rw [hV.out], HB.out⟩
     ·have d5 : decide ((tmS r1) < a) = false := decide_eq_false q5
      have hV : Hid (evR a z (tmS r1) (tmS r2) = false) := hI (by unfold evR; simp [qa1, qz, qb1, qa2, q5] <;> intros <;> omega)
      clear x0 x1 x2 x3 y0 y1 y2 y3 s0 s1 s2 s3 e0 e1 e2 e3
      go_wp2
      exact bodyPost_ret (v := .tuple #[.bool false, .nilIface]) (by simp [results, Tryz.results110, go_sem]) rfl ⟨by rw [hV.out], HB.out⟩
 ·have da1 : decide (a < (tmS r1)) = false := decide_eq_false qa1
  go_wp2_with fail
  refine (after_ (tmS r2) 0 a o (tmL r2) l _).mono ?_
  rintro _ v13 ⟨rfl, hb⟩
  have HA := hI (below_blk hb HA.out)
  have HZ := hI (below_blk hb HZ.out)
  have HS := hI (below_blk hb HS.out)
  have HE := hI (below_blk hb HE.out)
  have HB := hI (HB.out.trans (hb.mono HB.out.size))
  clear hb x0 x1 x2 x3 y0 y1 y2 y3 s0 s1 s2 s3 e0 e1 e2 e3
  have x0 : v13.cell? ⟨w.heap.size, 0, none⟩ = some (.int .i64 a) := (cell_blk HA.out 0).trans rfl
  have x1 : v13.cell? ⟨w.heap.size, 1, none⟩ = some (.int .i32 0) := (cell_blk HA.out 1).trans rfl
  have x2 : v13.cell? ⟨w.heap.size, 2, none⟩ = some (.string l) := (cell_blk HA.out 2).trans rfl
  have x3 : v13.cell? ⟨w.heap.size, 3, none⟩ = some (.int .i64 o) := (cell_blk HA.out 3).trans rfl
  have y0 : v13.cell? ⟨w.heap.size + 1, 0, none⟩ = some (.int .i64 z) := (cell_blk HZ.out 0).trans rfl
  have y1 : v13.cell? ⟨w.heap.size + 1, 1, none⟩ = some (.int .i32 0) := (cell_blk HZ.out 1).trans rfl
  have y2 : v13.cell? ⟨w.heap.size + 1, 2, none⟩ = some (.string l2) := (cell_blk HZ.out 2).trans rfl
  have y3 : v13.cell? ⟨w.heap.size + 1, 3, none⟩ = some (.int .i64 o2) := (cell_blk HZ.out 3).trans rfl
  have s0 : v13.cell? ⟨NS, 0, none⟩ = some (.int .i64 (tmS r1)) := (cell_blk HS.out 0).trans rfl
  have s1 : v13.cell? ⟨NS, 1, none⟩ = some (.int .i32 0) := (cell_blk HS.out 1).trans rfl
  have s2 : v13.cell? ⟨NS, 2, none⟩ = some (.string (tmL r1)) := (cell_blk HS.out 2).trans rfl
  have s3 : v13.cell? ⟨NS, 3, none⟩ = some (.int .i64 0) := (cell_blk HS.out 3).trans rfl
  have e0 : v13.cell? ⟨w9.heap.size, 0, none⟩ = some (.int .i64 (tmS r2)) := (cell_blk HE.out 0).trans rfl
  have e1 : v13.cell? ⟨w9.heap.size, 1, none⟩ = some (.int .i32 0) := (cell_blk HE.out 1).trans rfl
  have e2 : v13.cell? ⟨w9.heap.size, 2, none⟩ = some (.string (tmL r2)) := (cell_blk HE.out 2).trans rfl
  have e3 : v13.cell? ⟨w9.heap.size, 3, none⟩ = some (.int .i64 0) := (cell_blk HE.out 3).trans rfl
  by_cases qa2 : a < (tmS r2)
  ·have da2 : decide (a < (tmS r2)) = true := decide_eq_true qa2
   go_wp2_with fail
   refine (isZero_ z o2 l2 _).mono ?_
   rintro _ v14 ⟨rfl, hb⟩
   have HA := hI (below_blk hb HA.out)
   have HZ := hI (below_blk hb HZ.out)
   have HS := hI (below_blk hb HS.out)
   have HE := hI (below_blk hb HE.out)
   have HB := hI (HB.out.trans (hb.mono HB.out.size))
   clear hb x0 x1 x2 x3 y0 y1 y2 y3 s0 s1 s2 s3 e0 e1 e2 e3
   have x0 : v14.cell? ⟨w.heap.size, 0, none⟩ = some (.int .i64 a) := (cell_blk HA.out 0).trans rfl
   have x1 : v14.cell? ⟨w.heap.size, 1, none⟩ = some (.int .i32 0) := (cell_blk HA.out 1).trans rfl
   have x2 : v14.cell? ⟨w.heap.size, 2, none⟩ = some (.string l) := (cell_blk HA.out 2).trans rfl
   have x3 : v14.cell? ⟨w.heap.size, 3, none⟩ = some (.int .i64 o) := (cell_blk HA.out 3).trans rfl
   have y0 : v14.cell? ⟨w.heap.size + 1, 0, none⟩ = some (.int .i64 z) := (cell_blk HZ.out 0).trans rfl
   have y1 : v14.cell? ⟨w.heap.size + 1, 1, none⟩ = some (.int .i32 0) := (cell_blk HZ.out 1).trans rfl
   have y2 : v14.cell? ⟨w.heap.size + 1, 2, none⟩ = some (.string l2) := (cell_blk HZ.out 2).trans rfl
   have y3 : v14.cell? ⟨w.heap.size + 1, 3, none⟩ = some (.int .i64 o2) := (cell_blk HZ.out 3).trans rfl
   have s0 : v14.cell? ⟨NS, 0, none⟩ = some (.int .i64 (tmS r1)) := (cell_blk HS.out 0).trans rfl
   have s1 : v14.cell? ⟨NS, 1, none⟩ = some (.int .i32 0) := (cell_blk HS.out 1).trans rfl
   have s2 : v14.cell? ⟨NS, 2, none⟩ = some (.string (tmL r1)) := (cell_blk HS.out 2).trans rfl
   have s3 : v14.cell? ⟨NS, 3, none⟩ = some (.int .i64 0) := (cell_blk HS.out 3).trans rfl
   have e0 : v14.cell? ⟨w9.heap.size, 0, none⟩ = some (.int .i64 (tmS r2)) := (cell_blk HE.out 0).trans rfl
   have e1 : v14.cell? ⟨w9.heap.size, 1, none⟩ = some (.int .i32 0) := (cell_blk HE.out 1).trans rfl
   have e2 : v14.cell? ⟨w9.heap.size, 2, none⟩ = some (.string (tmL r2)) := (cell_blk HE.out 2).trans rfl
   have e3 : v14.cell? ⟨w9.heap.size, 3, none⟩ = some (.int .i64 0) := (cell_blk HE.out 3).trans rfl
   by_cases qz : z = 0
   ·have dz : decide (z = 0) = true := decide_eq_true qz
    have hV : Hid (evR a z (tmS r1) (tmS r2) = true) := hI (by unfold evR; simp [qa1, qa2, qz] <;> intros <;> omega)
    clear x0 x1 x2 x3 y0 y1 y2 y3 s0 s1 s2 s3 e0 e1 e2 e3
    go_wp2
    exact bodyPost_ret (v := .tuple #[.bool true, .nilIface]) (by simp [results, Tryz.results110, go_sem]) rfl ⟨by rw [hV.out], HB.out⟩
   ·have dz : decide (z = 0) = false := decide_eq_false qz
    go_wp2_with fail
    refine (before_ (tmS r2) 0 z o2 (tmL r2) l2 _).mono ?_
    rintro _ v15 ⟨rfl, hb⟩
    have HA := hI (below_blk hb HA.out)
    have HZ := hI (below_blk hb HZ.out)
    have HS := hI (below_blk hb HS.out)
    have HE := hI (below_blk hb HE.out)
    have HB := hI (HB.out.trans (hb.mono HB.out.size))
    clear hb x0 x1 x2 x3 y0 y1 y2 y3 s0 s1 s2 s3 e0 e1 e2 e3
    have x0 : v15.cell? ⟨w.heap.size, 0, none⟩ = some (.int .i64 a) := (cell_blk HA.out 0).trans rfl
    have x1 : v15.cell? ⟨w.heap.size, 1, none⟩ = some (.int .i32 0) := (cell_blk HA.out 1).trans rfl
    have x2 : v15.cell? ⟨w.heap.size, 2, none⟩ = some (.string l) := (cell_blk HA.out 2).trans rfl
    have x3 : v15.cell? ⟨w.heap.size, 3, none⟩ = some (.int .i64 o) := (cell_blk HA.out 3).trans rfl
    have y0 : v15.cell? ⟨w.heap.size + 1, 0, none⟩ = some (.int .i64 z) := (cell_blk HZ.out 0).trans rfl
    have y1 : v15.cell? ⟨w.heap.size + 1, 1, none⟩ = some (.int .i32 0) := (cell_blk HZ.out 1).trans rfl
    have y2 : v15.cell? ⟨w.heap.size + 1, 2, none⟩ = some (.string l2) := (cell_blk HZ.out 2).trans rfl
    have y3 : v15.cell? ⟨w.heap.size + 1, 3, none⟩ = some (.int .i64 o2) := (cell_blk HZ.out 3).trans rfl
    have s0 : v15.cell? ⟨NS, 0, none⟩ = some (.int .i64 (tmS r1)) := (cell_blk HS.out 0).trans rfl
    have s1 : v15.cell? ⟨NS, 1, none⟩ = some (.int .i32 0) := (cell_blk HS.out 1).trans rfl
    have s2 : v15.cell? ⟨NS, 2, none⟩ = some (.string (tmL r1)) := (cell_blk HS.out 2).trans rfl
    have s3 : v15.cell? ⟨NS, 3, none⟩ = some (.int .i64 0) := (cell_blk HS.out 3).trans rfl
    have e0 : v15.cell? ⟨w9.heap.size, 0, none⟩ = some (.int .i64 (tmS r2)) := (cell_blk HE.out 0).trans rfl
    have e1 : v15.cell? ⟨w9.heap.size, 1, none⟩ = some (.int .i32 0) := (cell_blk HE.out 1).trans rfl
    have e2 : v15.cell? ⟨w9.heap.size, 2, none⟩ = some (.string (tmL r2)) := (cell_blk HE.out 2).trans rfl
    have e3 : v15.cell? ⟨w9.heap.size, 3, none⟩ = some (.int .i64 0) := (cell_blk HE.out 3).trans rfl
    by_cases qb2 : (tmS r2) < z
    ·have db2 : decide ((tmS r2) < z) = true := decide_eq_true qb2
     have hV : Hid (evR a z (tmS r1) (tmS r2) = true) := hI (by unfold evR; simp [qa1, qa2, qz, qb2] <;> intros <;> omega)
     clear x0 x1 x2 x3 y0 y1 y2 y3 s0 s1 s2 s3 e0 e1 e2 e3
     go_wp2
     exact bodyPost_ret (v := .tuple #[.bool true, .nilIface]) (by simp [results, Tryz.results110, go_sem]) rfl ⟨by rw [hV.out], HB.out⟩
    ·have db2 : decide ((tmS r2) < z) = false := decide_eq_false qb2
     go_wp2_with fail
     refine (before_ (tmS r1) 0 a o (tmL r1) l _).mono ?_
     rintro _ v16 ⟨rfl, hb⟩
     have HA := hI (below_blk hb HA.out)
     have HZ := hI (below_blk hb HZ.out)
     have HS := hI (below_blk hb HS.out)
     have HE := hI (below_blk hb HE.out)
     have HB := hI (HB.out.trans (hb.mono HB.out.size))
     clear hb x0 x1 x2 x3 y0 y1 y2 y3 s0 s1 s2 s3 e0 e1 e2 e3
     have x0 : v16.cell? ⟨w.heap.size, 0, none⟩ = some (.int .i64 a) := (cell_blk HA.out 0).trans rfl
     have x1 : v16.cell? ⟨w.heap.size, 1, none⟩ = some (.int .i32 0) := (cell_blk HA.out 1).trans rfl
     have x2 : v16.cell? ⟨w.heap.size, 2, none⟩ = some (.string l) := (cell_blk HA.out 2).trans rfl
     have x3 : v16.cell? ⟨w.heap.size, 3, none⟩ = some (.int .i64 o) := (cell_blk HA.out 3).trans rfl
     have y0 : v16.cell? ⟨w.heap.size + 1, 0, none⟩ = some (.int .i64 z) := (cell_blk HZ.out 0).trans rfl
     have y1 : v16.cell? ⟨w.heap.size + 1, 1, none⟩ = some (.int .i32 0) := (cell_blk HZ.out 1).trans rfl
     have y2 : v16.cell? ⟨w.heap.size + 1, 2, none⟩ = some (.string l2) := (cell_blk HZ.out 2).trans rfl
     have y3 : v16.cell? ⟨w.heap.size + 1, 3, none⟩ = some (.int .i64 o2) := (cell_blk HZ.out 3).trans rfl
     have s0 : v16.cell? ⟨NS, 0, none⟩ = some (.int .i64 (tmS r1)) := (cell_blk HS.out 0).trans rfl
     have s1 : v16.cell? ⟨NS, 1, none⟩ = some (.int .i32 0) := (cell_blk HS.out 1).trans rfl
     have s2 : v16.cell? ⟨NS, 2, none⟩ = some (.string (tmL r1)) := (cell_blk HS.out 2).trans rfl
     have s3 : v16.cell? ⟨NS, 3, none⟩ = some (.int .i64 0) := (cell_blk HS.out 3).trans rfl
     have e0 : v16.cell? ⟨w9.heap.size, 0, none⟩ = some (.int .i64 (tmS r2)) := (cell_blk HE.out 0).trans rfl
     have e1 : v16.cell? ⟨w9.heap.size, 1, none⟩ = some (.int .i32 0) := (cell_blk HE.out 1).trans rfl
     have e2 : v16.cell? ⟨w9.heap.size, 2, none⟩ = some (.string (tmL r2)) := (cell_blk HE.out 2).trans rfl
     have e3 : v16.cell? ⟨w9.heap.size, 3, none⟩ = some (.int .i64 0) := (cell_blk HE.out 3).trans rfl
     by_cases q5 : (tmS r1) < a
     ·have d5 : decide ((tmS r1) < a) = true := decide_eq_true q5
      go_wp2_with fail
      refine (isZero_ z o2 l2 _).mono ?_
      rintro _ v17 ⟨rfl, hb⟩
      have HA := hI (below_blk hb HA.out)
      have HZ := hI (below_blk hb HZ.out)
      have HS := hI (below_blk hb HS.out)
      have HE := hI (below_blk hb HE.out)
      have HB := hI (HB.out.trans (hb.mono HB.out.size))
      clear hb x0 x1 x2 x3 y0 y1 y2 y3 s0 s1 s2 s3 e0 e1 e2 e3
      have x0 : v17.cell? ⟨w.heap.size, 0, none⟩ = some (.int .i64 a) := (cell_blk HA.out 0).trans rfl
      have x1 : v17.cell? ⟨w.heap.size, 1, none⟩ = some (.int .i32 0) := (cell_blk HA.out 1).trans rfl
      have x2 : v17.cell? ⟨w.heap.size, 2, none⟩ = some (.string l) := (cell_blk HA.out 2).trans rfl
      have x3 : v17.cell? ⟨w.heap.size, 3, none⟩ = some (.int .i64 o) := (cell_blk HA.out 3).trans rfl
      have y0 : v17.cell? ⟨w.heap.size + 1, 0, none⟩ = some (.int .i64 z) := (cell_blk HZ.out 0).trans rfl
      have y1 : v17.cell? ⟨w.heap.size + 1, 1, none⟩ = some (.int .i32 0) := (cell_blk HZ.out 1).trans rfl
      have y2 : v17.cell? ⟨w.heap.size + 1, 2, none⟩ = some (.string l2) := (cell_blk HZ.out 2).trans rfl
      have y3 : v17.cell? ⟨w.heap.size + 1, 3, none⟩ = some (.int .i64 o2) := (cell_blk HZ.out 3).trans rfl
      have s0 : v17.cell? ⟨NS, 0, none⟩ = some (.int .i64 (tmS r1)) := (cell_blk HS.out 0).trans rfl
      have s1 : v17.cell? ⟨NS, 1, none⟩ = some (.int .i32 0) := (cell_blk HS.out 1).trans rfl
      have s2 : v17.cell? ⟨NS, 2, none⟩ = some (.string (tmL r1)) := (cell_blk HS.out 2).trans rfl
      have s3 : v17.cell? ⟨NS, 3, none⟩ = some (.int .i64 0) := (cell_blk HS.out 3).trans rfl
      have e0 : v17.cell? ⟨w9.heap.size, 0, none⟩ = some (.int .i64 (tmS r2)) := (cell_blk HE.out 0).trans rfl
      have e1 : v17.cell? ⟨w9.heap.size, 1, none⟩ = some (.int .i32 0) := (cell_blk HE.out 1).trans rfl
      have e2 : v17.cell? ⟨w9.heap.size, 2, none⟩ = some (.string (tmL r2)) := (cell_blk HE.out 2).trans rfl
      have e3 : v17.cell? ⟨w9.heap.size, 3, none⟩ = some (.int .i64 0) := (cell_blk HE.out 3).trans rfl
      go_wp2_with fail
      refine (after_ (tmS r2) 0 z o2 (tmL r2) l2 _).mono ?_
      rintro _ v18 ⟨rfl, hb⟩
      have HA := hI (below_blk hb HA.out)
      have HZ := hI (below_blk hb HZ.out)
      have HS := hI (below_blk hb HS.out)
      have HE := hI (below_blk hb HE.out)
      have HB := hI (HB.out.trans (hb.mono HB.out.size))
      clear hb x0 x1 x2 x3 y0 y1 y2 y3 s0 s1 s2 s3 e0 e1 e2 e3
      have x0 : v18.cell? ⟨w.heap.size, 0, none⟩ = some (.int .i64 a) := (cell_blk HA.out 0).trans rfl
      have x1 : v18.cell? ⟨w.heap.size, 1, none⟩ = some (.int .i32 0) := (cell_blk HA.out 1).trans rfl
      have x2 : v18.cell? ⟨w.heap.size, 2, none⟩ = some (.string l) := (cell_blk HA.out 2).trans rfl
      have x3 : v18.cell? ⟨w.heap.size, 3, none⟩ = some (.int .i64 o) := (cell_blk HA.out 3).trans rfl
      have y0 : v18.cell? ⟨w.heap.size + 1, 0, none⟩ = some (.int .i64 z) := (cell_blk HZ.out 0).trans rfl
      have y1 : v18.cell? ⟨w.heap.size + 1, 1, none⟩ = some (.int .i32 0) := (cell_blk HZ.out 1).trans rfl
      have y2 : v18.cell? ⟨w.heap.size + 1, 2, none⟩ = some (.string l2) := (cell_blk HZ.out 2).trans rfl
      have y3 : v18.cell? ⟨w.heap.size + 1, 3, none⟩ = some (.int .i64 o2) := (cell_blk HZ.out 3).trans rfl
      have s0 : v18.cell? ⟨NS, 0, none⟩ = some (.int .i64 (tmS r1)) := (cell_blk HS.out 0).trans rfl
      have s1 : v18.cell? ⟨NS, 1, none⟩ = some (.int .i32 0) := (cell_blk HS.out 1).trans rfl
      have s2 : v18.cell? ⟨NS, 2, none⟩ = some (.string (tmL r1)) := (cell_blk HS.out 2).trans rfl
      have s3 : v18.cell? ⟨NS, 3, none⟩ = some (.int .i64 0) := (cell_blk HS.out 3).trans rfl
      have e0 : v18.cell? ⟨w9.heap.size, 0, none⟩ = some (.int .i64 (tmS r2)) := (cell_blk HE.out 0).trans rfl
      have e1 : v18.cell? ⟨w9.heap.size, 1, none⟩ = some (.int .i32 0) := (cell_blk HE.out 1).trans rfl
      have e2 : v18.cell? ⟨w9.heap.size, 2, none⟩ = some (.string (tmL r2)) := (cell_blk HE.out 2).trans rfl
      have e3 : v18.cell? ⟨w9.heap.size, 3, none⟩ = some (.int .i64 0) := (cell_blk HE.out 3).trans rfl
      by_cases q6 : z < (tmS r2)
      ·have d6 : decide (z < (tmS r2)) = true := decide_eq_true q6
       have hV : Hid (evR a z (tmS r1) (tmS r2) = true) := hI (by unfold evR; simp [qa1, qa2, qz, qb2, q5, q6] <;> intros <;> omega)
       clear x0 x1 x2 x3 y0 y1 y2 y3 s0 s1 s2 s3 e0 e1 e2 e3
       go_wp2
       exact bodyPost_ret (v := .tuple #[.bool true, .nilIface]) (by simp [results, Tryz.results110, go_sem]) rfl ⟨by rw [hV.out], HB.out⟩
      ·have d6 : decide (z < (tmS r2)) = false := decide_eq_false q6
       have hV : Hid (evR a z (tmS r1) (tmS r2) = false) := hI (by unfold evR; simp [qa1, qa2, qz, qb2, q5, q6] <;> intros <;> omega)
       clear x0 x1 x2 x3 y0 y1 y2 y3 s0 s1 s2 s3 e0 e1 e2 e3
       go_wp2
       exact bodyPost_ret (v := .tuple #[.bool false, .nilIface]) (by simp [results, Tryz.results110, go_sem]) rfl ⟨by rw [hV.out], HB.out⟩
     ·have d5 : decide ((tmS r1) < a) = false := decide_eq_false q5
      have hV : Hid (evR a z (tmS r1) (tmS r2) = false) := hI (by unfold evR; simp [qa1, qa2, qz, qb2, q5] <;> intros <;> omega)
      clear x0 x1 x2 x3 y0 y1 y2 y3 s0 s1 s2 s3 e0 e1 e2 e3
      go_wp2
      exact bodyPost_ret (v := .tuple #[.bool false, .nilIface]) (by simp [results, Tryz.results110, go_sem]) rfl ⟨by rw [hV.out], HB.out⟩
  ·have da2 : decide (a < (tmS r2)) = false := decide_eq_false qa2
   go_wp2_with fail
   refine (before_ (tmS r1) 0 a o (tmL r1) l _).mono ?_
   rintro _ v19 ⟨rfl, hb⟩
   have HA := hI (below_blk hb HA.out)
   have HZ := hI (below_blk hb HZ.out)
   have HS := hI (below_blk hb HS.out)
   have HE := hI (below_blk hb HE.out)
   have HB := hI (HB.out.trans (hb.mono HB.out.size))
   clear hb x0 x1 x2 x3 y0 y1 y2 y3 s0 s1 s2 s3 e0 e1 e2 e3
   have x0 : v19.cell? ⟨w.heap.size, 0, none⟩ = some (.int .i64 a) := (cell_blk HA.out 0).trans rfl
   have x1 : v19.cell? ⟨w.heap.size, 1, none⟩ = some (.int .i32 0) := (cell_blk HA.out 1).trans rfl
   have x2 : v19.cell? ⟨w.heap.size, 2, none⟩ = some (.string l) := (cell_blk HA.out 2).trans rfl
   have x3 : v19.cell? ⟨w.heap.size, 3, none⟩ = some (.int .i64 o) := (cell_blk HA.out 3).trans rfl
   have y0 : v19.cell? ⟨w.heap.size + 1, 0, none⟩ = some (.int .i64 z) := (cell_blk HZ.out 0).trans rfl
   have y1 : v19.cell? ⟨w.heap.size + 1, 1, none⟩ = some (.int .i32 0) := (cell_blk HZ.out 1).trans rfl
   have y2 : v19.cell? ⟨w.heap.size + 1, 2, none⟩ = some (.string l2) := (cell_blk HZ.out 2).trans rfl
   have y3 : v19.cell? ⟨w.heap.size + 1, 3, none⟩ = some (.int .i64 o2) := (cell_blk HZ.out 3).trans rfl
   have s0 : v19.cell? ⟨NS, 0, none⟩ = some (.int .i64 (tmS r1)) := (cell_blk HS.out 0).trans rfl
   have s1 : v19.cell? ⟨NS, 1, none⟩ = some (.int .i32 0) := (cell_blk HS.out 1).trans rfl
   have s2 : v19.cell? ⟨NS, 2, none⟩ = some (.string (tmL r1)) := (cell_blk HS.out 2).trans rfl
   have s3 : v19.cell? ⟨NS, 3, none⟩ = some (.int .i64 0) := (cell_blk HS.out 3).trans rfl
   have e0 : v19.cell? ⟨w9.heap.size, 0, none⟩ = some (.int .i64 (tmS r2)) := (cell_blk HE.out 0).trans rfl
   have e1 : v19.cell? ⟨w9.heap.size, 1, none⟩ = some (.int .i32 0) := (cell_blk HE.out 1).trans rfl
   have e2 : v19.cell? ⟨w9.heap.size, 2, none⟩ = some (.string (tmL r2)) := (cell_blk HE.out 2).trans rfl
   have e3 : v19.cell? ⟨w9.heap.size, 3, none⟩ = some (.int .i64 0) := (cell_blk HE.out 3).trans rfl
   by_cases q5 : (tmS r1) < a
   ·have d5 : decide ((tmS r1) < a) = true := decide_eq_true q5
    go_wp2_with fail
    refine (isZero_ z o2 l2 _).mono ?_
    rintro _ v20 ⟨rfl, hb⟩
    have HA := hI (below_blk hb HA.out)
    have HZ := hI (below_blk hb HZ.out)
    have HS := hI (below_blk hb HS.out)
    have HE := hI (below_blk hb HE.out)
    have HB := hI (HB.out.trans (hb.mono HB.out.size))
    clear hb x0 x1 x2 x3 y0 y1 y2 y3 s0 s1 s2 s3 e0 e1 e2 e3
    have x0 : v20.cell? ⟨w.heap.size, 0, none⟩ = some (.int .i64 a) := (cell_blk HA.out 0).trans rfl
    have x1 : v20.cell? ⟨w.heap.size, 1, none⟩ = some (.int .i32 0) := (cell_blk HA.out 1).trans rfl
    have x2 : v20.cell? ⟨w.heap.size, 2, none⟩ = some (.string l) := (cell_blk HA.out 2).trans rfl
    have x3 : v20.cell? ⟨w.heap.size, 3, none⟩ = some (.int .i64 o) := (cell_blk HA.out 3).trans rfl
    have y0 : v20.cell? ⟨w.heap.size + 1, 0, none⟩ = some (.int .i64 z) := (cell_blk HZ.out 0).trans rfl
    have y1 : v20.cell? ⟨w.heap.size + 1, 1, none⟩ = some (.int .i32 0) := (cell_blk HZ.out 1).trans rfl
    have y2 : v20.cell? ⟨w.heap.size + 1, 2, none⟩ = some (.string l2) := (cell_blk HZ.out 2).trans rfl
    have y3 : v20.cell? ⟨w.heap.size + 1, 3, none⟩ = some (.int .i64 o2) := (cell_blk HZ.out 3).trans rfl
    have s0 : v20.cell? ⟨NS, 0, none⟩ = some (.int .i64 (tmS r1)) := (cell_blk HS.out 0).trans rfl
    have s1 : v20.cell? ⟨NS, 1, none⟩ = some (.int .i32 0) := (cell_blk HS.out 1).trans rfl
    have s2 : v20.cell? ⟨NS, 2, none⟩ = some (.string (tmL r1)) := (cell_blk HS.out 2).trans rfl
    have s3 : v20.cell? ⟨NS, 3, none⟩ = some (.int .i64 0) := (cell_blk HS.out 3).trans rfl
    have e0 : v20.cell? ⟨w9.heap.size, 0, none⟩ = some (.int .i64 (tmS r2)) := (cell_blk HE.out 0).trans rfl
    have e1 : v20.cell? ⟨w9.heap.size, 1, none⟩ = some (.int .i32 0) := (cell_blk HE.out 1).trans rfl
    have e2 : v20.cell? ⟨w9.heap.size, 2, none⟩ = some (.string (tmL r2)) := (cell_blk HE.out 2).trans rfl
    have e3 : v20.cell? ⟨w9.heap.size, 3, none⟩ = some (.int .i64 0) := (cell_blk HE.out 3).trans rfl
    by_cases qz : z = 0
    ·have dz : decide (z = 0) = true := decide_eq_true qz
     have hV : Hid (evR a z (tmS r1) (tmS r2) = false) := hI (by unfold evR; simp [qa1, qa2, q5, qz] <;> intros <;> omega)
     clear x0 x1 x2 x3 y0 y1 y2 y3 s0 s1 s2 s3 e0 e1 e2 e3
     go_wp2
     exact bodyPost_ret (v := .tuple #[.bool false, .nilIface]) (by simp [results, Tryz.results110, go_sem]) rfl ⟨by rw [hV.out], HB.out⟩
    ·have dz : decide (z = 0) = false := decide_eq_false qz
     go_wp2_with fail
     refine (after_ (tmS r2) 0 z o2 (tmL r2) l2 _).mono ?_
     rintro _ v21 ⟨rfl, hb⟩
     have HA := hI (below_blk hb HA.out)
     have HZ := hI (below_blk hb HZ.out)
     have HS := hI (below_blk hb HS.out)
     have HE := hI (below_blk hb HE.out)
     have HB := hI (HB.out.trans (hb.mono HB.out.size))
     clear hb x0 x1 x2 x3 y0 y1 y2 y3 s0 s1 s2 s3 e0 e1 e2 e3
     have x0 : v21.cell? ⟨w.heap.size, 0, none⟩ = some (.int .i64 a) := (cell_blk HA.out 0).trans rfl
     have x1 : v21.cell? ⟨w.heap.size, 1, none⟩ = some (.int .i32 0) := (cell_blk HA.out 1).trans rfl
     have x2 : v21.cell? ⟨w.heap.size, 2, none⟩ = some (.string l) := (cell_blk HA.out 2).trans rfl
     have x3 : v21.cell? ⟨w.heap.size, 3, none⟩ = some (.int .i64 o) := (cell_blk HA.out 3).trans rfl
     have y0 : v21.cell? ⟨w.heap.size + 1, 0, none⟩ = some (.int .i64 z) := (cell_blk HZ.out 0).trans rfl
     have y1 : v21.cell? ⟨w.heap.size + 1, 1, none⟩ = some (.int .i32 0) := (cell_blk HZ.out 1).trans rfl
     have y2 : v21.cell? ⟨w.heap.size + 1, 2, none⟩ = some (.string l2) := (cell_blk HZ.out 2).trans rfl
     have y3 : v21.cell? ⟨w.heap.size + 1, 3, none⟩ = some (.int .i64 o2) := (cell_blk HZ.out 3).trans rfl
     have s0 : v21.cell? ⟨NS, 0, none⟩ = some (.int .i64 (tmS r1)) := (cell_blk HS.out 0).trans rfl
     have s1 : v21.cell? ⟨NS, 1, none⟩ = some (.int .i32 0) := (cell_blk HS.out 1).trans rfl
     have s2 : v21.cell? ⟨NS, 2, none⟩ = some (.string (tmL r1)) := (cell_blk HS.out 2).trans rfl
     have s3 : v21.cell? ⟨NS, 3, none⟩ = some (.int .i64 0) := (cell_blk HS.out 3).trans rfl
     have e0 : v21.cell? ⟨w9.heap.size, 0, none⟩ = some (.int .i64 (tmS r2)) := (cell_blk HE.out 0).trans rfl
     have e1 : v21.cell? ⟨w9.heap.size, 1, none⟩ = some (.int .i32 0) := (cell_blk HE.out 1).trans rfl
     have e2 : v21.cell? ⟨w9.heap.size, 2, none⟩ = some (.string (tmL r2)) := (cell_blk HE.out 2).trans rfl
     have e3 : v21.cell? ⟨w9.heap.size, 3, none⟩ = some (.int .i64 0) := (cell_blk HE.out 3).trans rfl
     by_cases q6 : z < (tmS r2)
     ·have d6 : decide (z < (tmS r2)) = true := decide_eq_true q6
      have hV : Hid (evR a z (tmS r1) (tmS r2) = true) := hI (by unfold evR; simp [qa1, qa2, q5, qz, q6] <;> intros <;> omega)
      clear x0 x1 x2 x3 y0 y1 y2 y3 s0 s1 s2 s3 e0 e1 e2 e3
      go_wp2
      exact bodyPost_ret (v := .tuple #[.bool true, .nilIface]) (by simp [results, Tryz.results110, go_sem]) rfl ⟨by rw [hV.out], HB.out⟩
     ·have d6 : decide (z < (tmS r2)) = false := decide_eq_false q6
      have hV : Hid (evR a z (tmS r1) (tmS r2) = false) := hI (by unfold evR; simp [qa1, qa2, q5, qz, q6] <;> intros <;> omega)
      clear x0 x1 x2 x3 y0 y1 y2 y3 s0 s1 s2 s3 e0 e1 e2 e3
      go_wp2
      exact bodyPost_ret (v := .tuple #[.bool false, .nilIface]) (by simp [results, Tryz.results110, go_sem]) rfl ⟨by rw [hV.out], HB.out⟩
   ·have d5 : decide ((tmS r1) < a) = false := decide_eq_false q5
    have hV : Hid (evR a z (tmS r1) (tmS r2) = false) := hI (by unfold evR; simp [qa1, qa2, q5] <;> intros <;> omega)
    clear x0 x1 x2 x3 y0 y1 y2 y3 s0 s1 s2 s3 e0 e1 e2 e3
    go_wp2
    exact bodyPost_ret (v := .tuple #[.bool false, .nilIface]) (by simp [results, Tryz.results110, go_sem]) rfl ⟨by rw [hV.out], HB.out⟩
def imo (p : S75) : Int × Bool × Bool := (spec_IMoment.f 100 p.f0 p.f1 p.f2).getD (0, false, false)
def textV (t : KT) (s : ByteArray) : Bool := match t with
 | none => true
 | some t => holdB s t.1 != t.2
def parsV (l : List KPa) (p : S75) : Bool := l.all fun q => paramV q.name q.absent q.text p.f1
def propV (fp : KPr) (ps : List S75) : Bool := match firstP ps fp.name with
 | none => fp.absent
 | some p => parsV fp.params p && (if fp.has then decide (fp.st < (imo p).1) && decide ((imo p).1 < fp.en) else textV fp.text p.f2)
def PropOk (f : ByteArray → Option ByteArray) (fp : KPr) (ps : List S75) : Prop := ∀ p, firstP ps fp.name = some p → fp.absent = false ∧ fp.hasEnd = fp.has ∧ (fp.has = true → MomP f p (imo p).1)
def KaGr (x : KPa) : Prop := upper x.name = x.name
structure KpGr (x : KPr) : Prop where
 name : upper x.name = x.name
 params : ∀ q ∈ x.params, KaGr q
inductive KGr : KCo → Prop
 | mk (x : KCo) : (∀ p ∈ x.props, KpGr p) → (∀ g ∈ x.comps, KGr g) → KGr x
theorem parsV_take (l : List KPa) (p : S75) (k : Nat) (q : KPa) (h : l[k]? = some q) : parsV (l.take (k + 1)) p = (parsV (l.take k) p && paramV q.name q.absent q.text p.f1) := by
 rw [take_snoc' _ _ _ h]
 unfold parsV
 rw [List.all_append]
 simp
theorem parsV_false (l : List KPa) (p : S75) (k : Nat) (q : KPa) (h : l[k]? = some q) (hf : paramV q.name q.absent q.text p.f1 = false) : parsV l p = false := by
 unfold parsV
 rw [List.all_eq_false]
 exact ⟨q, List.mem_of_getElem? h, by simp [hf]⟩
theorem SegT.uniq {t : ByteArray} {k k' u u' : Nat} {n n' wt wt' : Int} {tm tm' : Bool} (h : SegT t k u n) (h' : SegT t k' u' n') (hw : Wt tm u wt) (hw' : Wt tm' u' wt') : k = k' ∧ u = u' ∧ n = n' := by
 have hu : 57 < u := by rcases hw with ⟨_, ⟨rfl, _⟩ | ⟨rfl, _⟩⟩ | ⟨_, ⟨rfl, _⟩ | ⟨rfl, _⟩ | ⟨rfl, _⟩⟩ <;> omega
 have hu' : 57 < u' := by rcases hw' with ⟨_, ⟨rfl, _⟩ | ⟨rfl, _⟩⟩ | ⟨_, ⟨rfl, _⟩ | ⟨rfl, _⟩ | ⟨rfl, _⟩⟩ <;> omega
 have hk : k = k' := by
  rcases Nat.lt_trichotomy k k' with hlt | he | hlt
  ·have := h'.each k h.lt hlt
   unfold dgt at this
   have h2 := h.unit
   omega
  ·exact he
  ·have := h.each k' h'.lt hlt
   unfold dgt at this
   have h2 := h'.unit
   omega
 subst hk
 exact ⟨rfl, by rw [← h.unit, ← h'.unit], by rw [h.num, h'.num]⟩
theorem Wt.uniq {tm : Bool} {u : Nat} {a b : Int} (h : Wt tm u a) (h' : Wt tm u b) : a = b := by
 rcases h with ⟨_, ⟨rfl, rfl⟩ | ⟨rfl, rfl⟩⟩ | ⟨_, ⟨rfl, rfl⟩ | ⟨rfl, rfl⟩ | ⟨rfl, rfl⟩⟩ <;> rcases h' with ⟨_, ⟨h, rfl⟩ | ⟨h, rfl⟩⟩ | ⟨_, ⟨h, rfl⟩ | ⟨h, rfl⟩ | ⟨h, rfl⟩⟩ <;> first | rfl | omega
theorem DurT.uniq {tm : Bool} {t : ByteArray} {a : Int} (h : DurT tm t a) : ∀ {b}, DurT tm t b → a = b := by
 induction h with
 | done tm t h0 =>
  intro b h'
  cases h' with
  | done => rfl
  | date _ k u n wt s a1 a2 a3 => have := a1.lt; omega
  | first _ t2 h k u n wt s a0 a1 a2 a3 a4 => omega
  | time _ k u n wt s a1 a2 a3 => have := a1.lt; omega
 | date t k u n wt s b1 b2 b3 ih =>
  intro b h'
  cases h' with
  | done _ _ h0 => have := b1.lt; omega
  | date _ k' u' n' wt' s' a1 a2 a3 =>
   obtain ⟨rfl, rfl, rfl⟩ := b1.uniq a1 b2 a2
   obtain rfl := b2.uniq a2
   rw [ih a3]
  | first _ t2 h k' u' n' wt' s' a0 a1 a2 a3 a4 => exact absurd (by exact_mod_cast a0) (b1.notT h 84 (by omega))
 | first t t2 h k u n wt s b0 b1 b2 b3 b4 ih =>
  intro b h'
  cases h' with
  | done _ _ h0 => omega
  | date _ k' u' n' wt' s' a1 a2 a3 => exact absurd (by exact_mod_cast b0) (a1.notT h 84 (by omega))
  | first _ t3 h k' u' n' wt' s' a0 a1 a2 a3 a4 =>
   subst b1
   subst a1
   obtain ⟨rfl, rfl, rfl⟩ := b2.uniq a2 b3 a3
   obtain rfl := b3.uniq a3
   rw [ih a4]
 | time t k u n wt s b1 b2 b3 ih =>
  intro b h'
  cases h' with
  | done _ _ h0 => have := b1.lt; omega
  | time _ k' u' n' wt' s' a1 a2 a3 =>
   obtain ⟨rfl, rfl, rfl⟩ := b1.uniq a1 b2 a2
   obtain rfl := b2.uniq a2
   rw [ih a3]
open Classical in
noncomputable def lastV (v : ByteArray) : Int := if h : ∃ n, LastP v n then Classical.choose h else 0
theorem lastV_eq {v : ByteArray} {n : Int} (h : LastP v n) : lastV v = n := by
 unfold lastV
 rw [dif_pos ⟨n, h⟩]
 exact (Classical.choose_spec (⟨n, h⟩ : ∃ n, LastP v n)).2.2.2.1.uniq h.2.2.2.1
noncomputable def spanV (x : S36) : Int × Int := match firstP x.f1 nmSTART with
 | none => (0, 0)
 | some p => ((imo p).1, match firstP x.f1 nmEND with
  | some q => (imo q).1
  | none => match firstP x.f1 nmDUR with
   | some d => (imo p).1 + lastV d.f2
   | none => if (imo p).2.1 then (imo p).1 + 86400 else (imo p).1)
noncomputable def timeV (has hasEnd : Bool) (st en : Int) (x : S36) : Bool := if has then evR (momS has st) (momS hasEnd en) ((spanV x).1 + 62135596800) ((spanV x).2 + 62135596800) else true
def TimeOk (f : ByteArray → Option ByteArray) (fc : KCo) (x : S36) : Prop := fc.has = true → x.f0.toList = ([86, 69, 86, 69, 78, 84] : List UInt8) ∧ firstP x.f1 nmRRULE = none ∧ MomO f (firstP x.f1 nmSTART) (some (spanV x).1) ∧ EndO f x.f1 (some (spanV x).2)
mutual
noncomputable def compV : KCo → S36 → Bool
 | ⟨_, _, hs, he, st, en, ps, cs⟩, c => timeV hs he st en c && compsV cs c && ps.all (fun p => propV p c.f1)
noncomputable def compsV : List KCo → S36 → Bool
 | [], _ => true
 | g :: gs, c => (if g.absent then true else c.f2.any fun k => decide (k.f0 = g.name) && compV g k) && compsV gs c
end
noncomputable def kidV (g : KCo) (ks : List S36) : Bool := if g.absent then true else ks.any fun k => decide (k.f0 = g.name) && compV g k
noncomputable def mV (fc : KCo) (k : S36) : Bool := if k.f0 = fc.name then compV fc k else fc.absent
theorem compsV_eq (cs : List KCo) (c : S36) : compsV cs c = cs.all fun g => kidV g c.f2 := by
 induction cs with
 | nil => unfold compsV; rfl
 | cons g gs ih => unfold compsV; rw [ih]; rfl
theorem compV_eq (fc : KCo) (c : S36) : compV fc c = (timeV fc.has fc.hasEnd fc.st fc.en c && fc.comps.all (fun g => kidV g c.f2) && fc.props.all fun p => propV p c.f1) := by
 obtain ⟨a, b, hs, he, st, en, ps, cs⟩ := fc
 rw [compV, compsV_eq]
theorem any_mV (g : KCo) (ks : List S36) : (ks.any (mV g) || g.absent) = kidV g ks := by
 unfold kidV
 cases hg : g.absent
 ·rw [Bool.or_false]
  simp only [Bool.false_eq_true, if_false]
  congr 1
  funext k
  unfold mV
  by_cases h : k.f0 = g.name
  ·rw [if_pos h, decide_eq_true h, Bool.true_and]
  ·rw [if_neg h, hg, decide_eq_false h, Bool.false_and]
 ·simp
inductive CompOk (f : ByteArray → Option ByteArray) : KCo → S36 → Prop
 | mk (fc : KCo) (c : S36) : TimeOk f fc c → (∀ p ∈ fc.props, PropOk f p c.f1) → (∀ g ∈ fc.comps, g.absent = true → ∀ k ∈ c.f2, k.f0 ≠ g.name) → (∀ g ∈ fc.comps, g.absent = false → ∀ k ∈ c.f2, k.f0 = g.name → CompOk f g k) → CompOk f fc c
end Go.Proofs.YtcllaplddebilaaGreatDoor

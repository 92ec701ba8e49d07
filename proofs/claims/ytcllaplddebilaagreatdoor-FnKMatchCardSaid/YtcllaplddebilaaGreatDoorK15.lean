/- laws.FnKMatch: a part of the proof: InLoc, DateTime, PropsDT, EvStart, Holds, Consume, ParseCnt, DurText, Duration, PropDur, TimeS, TimeAdd, EvEnd, EvEnd2, EvEnd3, ParamF. -/
import Derived.Test.YtcllaplddebilaaGreatDoorK11
import Derived.Test.YtcllaplddebilaaGreatDoorK14
set_option maxRecDepth 1000000
set_option maxHeartbeats 64000000
set_option linter.unusedVariables false
set_option linter.unusedSimpArgs false
section
namespace Go.Proofs.YtcllaplddebilaaGreatDoor
open Go.RowKit Go.Sort
attribute [local go_sem] cell?_grow frozen?_grow cell?_redrawn frozen?_redrawn size_redrawn size_grow ba_get ba_extract
attribute [local simp] size_redrawn
open Go.Lib Go.Proofs.YtcllaplddebilaaGreatDoorW.PrintWords Go.Proofs.YtcllaplddebilaaGreatDoorW.PrintLast Go.Proofs.YtcllaplddebilaaGreatDoorW.PrintMore PFnKMatch
def lay8 : ByteArray := { data := #[50, 48, 48, 54, 48, 49, 48, 50] }
def lay16 : ByteArray := { data := #[50, 48, 48, 54, 48, 49, 48, 50, 84, 49, 53, 48, 52, 48, 53, 90] }
def ParsesTo (lay v : ByteArray) (n : Int) : Prop := ∀ w : World, Gl w → Calls Tryz.prog 186 #[.string lay, .string v] w fun e w' => e = .returned (.tuple #[.agg #[.int .i64 (n), .int .i32 0, .string { data := #[85, 84, 67] }, .int .i64 0], .nilIface]) ∧ Below w.heap.size w w'
theorem dat_parses (v : ByteArray) (sec : Int) (h : DatB v sec) : ParsesTo lay8 v (sec + 62135596800) := by
 obtain ⟨a, b, c, d, e, f, g, i, y, m, dd, rfl, ⟨⟨ha, hb, hc, hd, he, hf, hg, hi⟩, hy, hm, hdd, ⟨v1, v2, v3, v4, v5⟩, hy9⟩, rfl⟩ := h
 intro w hG
 exact parse8 a b c d e f g i y m dd w hG (hI hy) v1 hy9 (hI hm) v2 v3 (hI hdd) v4 v5 ha.1 ha.2 hb.1 hb.2 hc.1 hc.2 hd.1 hd.2 he.1 he.2 hf.1 hf.2 hg.1 hg.2 hi.1 hi.2
theorem mom_parses (v : ByteArray) (sec : Int) (h : MomB v sec) : ParsesTo lay16 v (sec + 62135596800) := by
 obtain ⟨a, b, c, d, e, f, g, i, h0, h1, i0, i1, s0, s1, y, m, dd, hh, mi, sc, rfl, ⟨⟨ha, hb, hc, hd, he, hf, hg, hi⟩, hy, hm, hdd, ⟨v1, v2, v3, v4, v5⟩, hy9⟩, ⟨⟨k1, k2, k3, k4, k5, k6⟩, q1, q2, q3, z1, z2, z3, z4, z5, z6⟩, rfl⟩ := h
 intro w hG
 exact parse16 a b c d e f g i h0 h1 i0 i1 s0 s1 y m dd hh mi sc w hG (hI hy) v1 hy9 (hI hm) (hI hdd) (hI q1) (hI q2) (hI q3) v2 v3 v4 v5 z1 z2 z3 z4 z5 z6 ha.1 ha.2 hb.1 hb.2 hc.1 hc.2 hd.1 hd.2 he.1 he.2 hf.1 hf.2 hg.1 hg.2 hi.1 hi.2 k1.1 k1.2 k2.1 k2.2 k3.1 k3.2 k4.1 k4.2 k5.1 k5.2 k6.1 k6.2
def Lay (lay : ByteArray) : Prop := (lay.toList == ([50, 48, 48, 54, 45, 48, 49, 45, 48, 50, 84, 49, 53, 58, 48, 52, 58, 48, 53, 90, 48, 55, 58, 48, 48] : List UInt8)) = false ∧ (lay.toList == ([50, 48, 48, 54, 45, 48, 49, 45, 48, 50, 84, 49, 53, 58, 48, 52, 58, 48, 53, 46, 57, 57, 57, 57, 57, 57, 57, 57, 57, 90, 48, 55, 58, 48, 48] : List UInt8)) = false
theorem lay8_ok : Lay lay8 := ⟨by rw [Lib.toList_data]; decide, by rw [Lib.toList_data]; decide⟩
theorem lay16_ok : Lay lay16 := ⟨by rw [Lib.toList_data]; decide, by rw [Lib.toList_data]; decide⟩
theorem parse_ (lay v : ByteArray) (n : Int) (w : World) (hG : Gl w) (hp : ParsesTo lay v n) (hL : Lay lay) :
  Calls Tryz.prog 134 #[.string lay, .string v] w fun e w' => e = .returned (.tuple #[.agg #[.int .i64 (n), .int .i32 0, .string { data := #[85, 84, 67] }, .int .i64 0], .nilIface]) ∧ Below w.heap.size w w' := by
 have hG0 : ∀ o, Gl (w.alloc o) := fun o => hG.below ((Below.refl _ _).alloc (Nat.le_refl _) o) hG.size
 obtain ⟨e1, e2⟩ := hL
 go_enter Tryz.func134, Tryz.ntmps134
 go_wp2_with fail
 refine (hp _ (hG0 _)).mono ?_
 rintro e wk ⟨rfl, hB⟩
 have hz := below_blk hB (new_blk w _)
 have hb0 : Below w.heap.size w wk := ((Below.refl _ _).alloc (Nat.le_refl _) _).trans (hB.mono (by simp))
 have c0 : wk.cell? ⟨w.heap.size, 0, none⟩ = _ := (cell_blk hz 0).trans rfl
 have c1 : wk.cell? ⟨w.heap.size, 1, none⟩ = _ := (cell_blk hz 1).trans rfl
 have c2 : wk.cell? ⟨w.heap.size, 2, none⟩ = _ := (cell_blk hz 2).trans rfl
 have c3 : wk.cell? ⟨w.heap.size, 3, none⟩ = _ := (cell_blk hz 3).trans rfl
 have f0 : ∀ o, wk.frozen? ⟨w.heap.size, o, none⟩ = false := fun o => frozen_blk hz o (by omega)
 have HB := hI hb0
 have HZ := hI hz
 clear hB hb0 hz
 go_wp2
 refine bodyPost_ret (v := .tuple #[.agg #[.int .i64 (n), .int .i32 0, .string { data := #[85, 84, 67] }, .int .i64 0], .nilIface]) ?_ rfl ⟨rfl, ?_⟩
 ·simp [results, Tryz.results134, go_sem, c0, c1, c2, c3, f0]
 ·exact (((HB.out.setCell (by simp) _).setCell (by simp) _).setCell (by simp) _).setCell (by simp) _
theorem inLoc (lay v loc : ByteArray) (n : Int) (w : World) (hG : Gl w) (hp : ParsesTo lay v n) (hL : Lay lay) :
  Calls Tryz.prog 86 #[.string lay, .string v, .string loc] w fun e w' => e = .returned (.tuple #[.agg #[.int .i64 (n), .int .i32 0, .string { data := #[85, 84, 67] }, .int .i64 0], .nilIface]) ∧ Below w.heap.size w w' := by
 have hG0 : ∀ o, Gl (w.alloc o) := fun o => hG.below ((Below.refl _ _).alloc (Nat.le_refl _) o) hG.size
 go_enter Tryz.func86, Tryz.ntmps86
 go_wp2_with fail
 refine (parse_ lay v n _ (hG0 _) hp hL).mono ?_
 rintro e wk ⟨rfl, hB⟩
 have hz := below_blk hB (new_blk w _)
 have hb0 : Below w.heap.size w wk := ((Below.refl _ _).alloc (Nat.le_refl _) _).trans (hB.mono (by simp))
 have c0 : wk.cell? ⟨w.heap.size, 0, none⟩ = _ := (cell_blk hz 0).trans rfl
 have c1 : wk.cell? ⟨w.heap.size, 1, none⟩ = _ := (cell_blk hz 1).trans rfl
 have c2 : wk.cell? ⟨w.heap.size, 2, none⟩ = _ := (cell_blk hz 2).trans rfl
 have c3 : wk.cell? ⟨w.heap.size, 3, none⟩ = _ := (cell_blk hz 3).trans rfl
 have f0 : ∀ o, wk.frozen? ⟨w.heap.size, o, none⟩ = false := fun o => frozen_blk hz o (by omega)
 have HB := hI hb0
 have HZ := hI hz
 clear hB hb0 hz
 go_wp2
 refine bodyPost_ret (v := .tuple #[.agg #[.int .i64 (n), .int .i32 0, .string { data := #[85, 84, 67] }, .int .i64 0], .nilIface]) ?_ rfl ⟨rfl, ?_⟩
 ·simp [results, Tryz.results86, go_sem, c0, c1, c2, c3, f0]
 ·exact (((HB.out.setCell (by simp) _).setCell (by simp) _).setCell (by simp) _).setCell (by simp) _
def nmDATE : ByteArray := { data := #[68, 65, 84, 69] }
def nmDT : ByteArray := { data := #[68, 65, 84, 69, 45, 84, 73, 77, 69] }
theorem dateTime_mom (w : World) (g : Nat) (p : S75) (f : ByteArray → Option ByteArray) (loc : ByteArray) (sec : Int) (h : PrAt w g p) (hD : Dv w f) (hG : Gl w) (hT : valT f p = nmDT) (hM : MomB p.f2 sec) :
  Calls Tryz.prog 52 #[.pointer (some ⟨g, 0, none⟩), .string loc] w fun e w' => e = .returned (.tuple #[.agg #[.int .i64 (sec + 62135596800), .int .i32 0, .string { data := #[85, 84, 67] }, .int .i64 0], .nilIface]) ∧ Below w.heap.size w w' := by
 have hs : (p.f2.size : Int) = 16 := by
  obtain ⟨a, b, c, d, e, f, g, i, h0, h1, i0, i1, s0, s1, y, m, dd, hh, mi, sc, h, _⟩ := hM
  rw [h]; rfl
 have hp := mom_parses _ _ hM
 have hG0 : ∀ o, Gl (w.alloc o) := fun o => hG.below ((Below.refl _ _).alloc (Nat.le_refl _) o) hG.size
 have hD0 : ∀ o, Dv (w.alloc o) f := fun o => hD.below (below_alloc (Below.refl _ _) o)
 have hP0 : ∀ o, PrAt (w.alloc o) g p := fun o => h.below (below_alloc (Below.refl _ _) o)
 clear hM h hD
 cases hl : loc.toList.isEmpty
 all_goals (
  go_enter Tryz.func52, Tryz.ntmps52
  go_wp2_with fail
  refine (valueType _ g p f (hP0 _) (hD0 _)).mono ?_
  rw [hT]
  rintro e w1 ⟨rfl, hb⟩
  obtain ⟨M, lo, hi, c0, c1, c2, -, -⟩ := (hP0 _).below hb
  have hG1 := (hG0 _).below hb (hG0 _).size
  have hz := below_blk hb (new_blk w _)
  have hB := hI (((Below.refl _ _).alloc (Nat.le_refl _) _).trans (hb.mono (by simp)) : Below w.heap.size w w1)
  have HZ := hI hz
  clear hb hz
  unfold nmDT
  go_wp2_with fail
  refine (inLoc lay16 p.f2 _ (sec + 62135596800) w1 hG1 hp lay16_ok).mono ?_
  rintro e wk ⟨rfl, hb⟩
  have hz := below_blk hb HZ.out
  have hb0 := hB.out.trans (hb.mono hB.out.size)
  have c0 : wk.cell? ⟨w.heap.size, 0, none⟩ = _ := (cell_blk hz 0).trans rfl
  have c1 : wk.cell? ⟨w.heap.size, 1, none⟩ = _ := (cell_blk hz 1).trans rfl
  have c2 : wk.cell? ⟨w.heap.size, 2, none⟩ = _ := (cell_blk hz 2).trans rfl
  have c3 : wk.cell? ⟨w.heap.size, 3, none⟩ = _ := (cell_blk hz 3).trans rfl
  have f0 : ∀ o, wk.frozen? ⟨w.heap.size, o, none⟩ = false := fun o => frozen_blk hz o (by omega)
  clear hz HZ hb
  have HB := hI hb0
  clear hb0
  go_wp2
  refine bodyPost_ret (v := .tuple #[.agg #[.int .i64 (sec + 62135596800), .int .i32 0, .string { data := #[85, 84, 67] }, .int .i64 0], .nilIface]) ?_ rfl ⟨rfl, ?_⟩
  ·simp [results, Tryz.results52, go_sem, c0, c1, c2, c3, f0]
  ·exact (((HB.out.setCell (by simp) _).setCell (by simp) _).setCell (by simp) _).setCell (by simp) _)
theorem dateTime_dat (w : World) (g : Nat) (p : S75) (f : ByteArray → Option ByteArray) (loc : ByteArray) (sec : Int) (h : PrAt w g p) (hD : Dv w f) (hG : Gl w) (hT : valT f p = nmDATE) (hM : DatB p.f2 sec) :
  Calls Tryz.prog 52 #[.pointer (some ⟨g, 0, none⟩), .string loc] w fun e w' => e = .returned (.tuple #[.agg #[.int .i64 (sec + 62135596800), .int .i32 0, .string { data := #[85, 84, 67] }, .int .i64 0], .nilIface]) ∧ Below w.heap.size w w' := by
 have hs : (p.f2.size : Int) = 8 := by
  obtain ⟨a, b, c, d, e, f, g, i, y, m, dd, h, _⟩ := hM
  rw [h]; rfl
 have hp := dat_parses _ _ hM
 have hG0 : ∀ o, Gl (w.alloc o) := fun o => hG.below ((Below.refl _ _).alloc (Nat.le_refl _) o) hG.size
 have hD0 : ∀ o, Dv (w.alloc o) f := fun o => hD.below (below_alloc (Below.refl _ _) o)
 have hP0 : ∀ o, PrAt (w.alloc o) g p := fun o => h.below (below_alloc (Below.refl _ _) o)
 clear hM h hD
 cases hl : loc.toList.isEmpty
 all_goals (
  go_enter Tryz.func52, Tryz.ntmps52
  go_wp2_with fail
  refine (valueType _ g p f (hP0 _) (hD0 _)).mono ?_
  rw [hT]
  rintro e w1 ⟨rfl, hb⟩
  obtain ⟨M, lo, hi, c0, c1, c2, -, -⟩ := (hP0 _).below hb
  have hG1 := (hG0 _).below hb (hG0 _).size
  have hz := below_blk hb (new_blk w _)
  have hB := hI (((Below.refl _ _).alloc (Nat.le_refl _) _).trans (hb.mono (by simp)) : Below w.heap.size w w1)
  have HZ := hI hz
  clear hb hz
  unfold nmDATE
  go_wp2_with fail
  refine (inLoc lay8 p.f2 _ (sec + 62135596800) w1 hG1 hp lay8_ok).mono ?_
  rintro e wk ⟨rfl, hb⟩
  have hz := below_blk hb HZ.out
  have hb0 := hB.out.trans (hb.mono hB.out.size)
  have c0 : wk.cell? ⟨w.heap.size, 0, none⟩ = _ := (cell_blk hz 0).trans rfl
  have c1 : wk.cell? ⟨w.heap.size, 1, none⟩ = _ := (cell_blk hz 1).trans rfl
  have c2 : wk.cell? ⟨w.heap.size, 2, none⟩ = _ := (cell_blk hz 2).trans rfl
  have c3 : wk.cell? ⟨w.heap.size, 3, none⟩ = _ := (cell_blk hz 3).trans rfl
  have f0 : ∀ o, wk.frozen? ⟨w.heap.size, o, none⟩ = false := fun o => frozen_blk hz o (by omega)
  clear hz HZ hb
  have HB := hI hb0
  clear hb0
  go_wp2
  refine bodyPost_ret (v := .tuple #[.agg #[.int .i64 (sec + 62135596800), .int .i32 0, .string { data := #[85, 84, 67] }, .int .i64 0], .nilIface]) ?_ rfl ⟨rfl, ?_⟩
  ·simp [results, Tryz.results52, go_sem, c0, c1, c2, c3, f0]
  ·exact (((HB.out.setCell (by simp) _).setCell (by simp) _).setCell (by simp) _).setCell (by simp) _)
def MomP (f : ByteArray → Option ByteArray) (p : S75) (sec : Int) : Prop := (valT f p = nmDT ∧ MomB p.f2 sec) ∨ (valT f p = nmDATE ∧ DatB p.f2 sec)
theorem dateTime (w : World) (g : Nat) (p : S75) (f : ByteArray → Option ByteArray) (loc : ByteArray) (sec : Int) (h : PrAt w g p) (hD : Dv w f) (hG : Gl w) (hM : MomP f p sec) :
  Calls Tryz.prog 52 #[.pointer (some ⟨g, 0, none⟩), .string loc] w fun e w' => e = .returned (.tuple #[.agg #[.int .i64 (sec + 62135596800), .int .i32 0, .string { data := #[85, 84, 67] }, .int .i64 0], .nilIface]) ∧ Below w.heap.size w w' := by
 rcases hM with ⟨a, b⟩ | ⟨a, b⟩
 ·exact dateTime_mom w g p f loc sec h hD hG a b
 ·exact dateTime_dat w g p f loc sec h hD hG a b
def tmo : Option Int → Value
 | none => .agg #[.int .i64 0, .int .i32 0, .string { data := #[] }, .int .i64 0]
 | some sec => .agg #[.int .i64 (sec + 62135596800), .int .i32 0, .string { data := #[85, 84, 67] }, .int .i64 0]
def MomO (f : ByteArray → Option ByteArray) : Option S75 → Option Int → Prop
 | none, none => True
 | some p, some s => MomP f p s
 | _, _ => False
theorem propsDateTime (w : World) (lo hi P0 : Nat) (ps : List S75) (gs : List GP) (n : ByteArray) (f : ByteArray → Option ByteArray) (loc : ByteArray) (r : Option Int) (h : QIn w lo hi P0 ps gs) (hh : hi ≤ w.heap.size) (hn : upper n = n) (hs : n.size ≤ 4294967296)
  (hD : Dv w f) (hG : Gl w) (hM : MomO f (firstP ps n) r) :
  Calls Tryz.prog 48 #[.map (some P0), .string n, .string loc] w fun e w' => e = .returned (.tuple #[tmo r, .nilIface]) ∧ Below w.heap.size w w' := by
 have hG0 : ∀ o, Gl (w.alloc o) := fun o => hG.below ((Below.refl _ _).alloc (Nat.le_refl _) o) hG.size
 have hD0 : ∀ o, Dv (w.alloc o) f := fun o => hD.below (below_alloc (Below.refl _ _) o)
 have hQ0 : ∀ o, QIn (w.alloc o) lo hi P0 ps gs := fun o => h.later hh (below_alloc (Below.refl _ _) o)
 clear h hD
 go_enter Tryz.func48, Tryz.ntmps48
 go_wp2_with fail
 refine (propsGet _ lo hi P0 ps gs n (hQ0 _) (by simp; omega) hn hs).mono ?_
 intro e w1 hpost
 rcases hpost with ⟨hr, rfl, hb⟩ | ⟨p, g, hr, rfl, hP, hb⟩
 ·rw [hr] at hM
  have hr0 : r = none := by
   cases r with
   | none => rfl
   | some s => exact hM.elim
  subst hr0
  have hz := below_blk hb (new_blk w _)
  have hb0 : Below w.heap.size w w1 := ((Below.refl _ _).alloc (Nat.le_refl _) _).trans (hb.mono (by simp))
  have c0 : w1.cell? ⟨w.heap.size, 0, none⟩ = _ := (cell_blk hz 0).trans rfl
  have c1 : w1.cell? ⟨w.heap.size, 1, none⟩ = _ := (cell_blk hz 1).trans rfl
  have c2 : w1.cell? ⟨w.heap.size, 2, none⟩ = _ := (cell_blk hz 2).trans rfl
  have c3 : w1.cell? ⟨w.heap.size, 3, none⟩ = _ := (cell_blk hz 3).trans rfl
  have f0 : ∀ o, w1.frozen? ⟨w.heap.size, o, none⟩ = false := fun o => frozen_blk hz o (by omega)
  have HB := hI hb0
  clear hz hb hb0 hM hr hQ0 hD0 hG0
  go_wp2
  refine bodyPost_ret (v := .tuple #[tmo none, .nilIface]) ?_ rfl ⟨rfl, ?_⟩
  ·simp [results, Tryz.results48, go_sem, c0, c1, c2, c3, f0, tmo]
  ·exact (((HB.out.setCell (by simp) _).setCell (by simp) _).setCell (by simp) _).setCell (by simp) _
 ·rw [hr] at hM
  obtain ⟨s, rfl⟩ : ∃ s, r = some s := by
   cases r with
   | none => exact hM.elim
   | some s => exact ⟨s, rfl⟩
  have hM' : MomP f p s := hM
  have hz := below_blk hb (new_blk w _)
  have hG1 := (hG0 _).below hb (hG0 _).size
  have hD1 := (hD0 _).below hb
  have HB := hI (((Below.refl _ _).alloc (Nat.le_refl _) _).trans (hb.mono (by simp)) : Below w.heap.size w w1)
  have HZ := hI hz
  clear hb hz hM hr hQ0 hD0
  go_wp2_with fail
  refine (dateTime w1 g p f loc s hP hD1 hG1 hM').mono ?_
  rintro e wk ⟨rfl, hb⟩
  have hz := below_blk hb HZ.out
  have hb0 := HB.out.trans (hb.mono HB.out.size)
  have c0 : wk.cell? ⟨w.heap.size, 0, none⟩ = _ := (cell_blk hz 0).trans rfl
  have c1 : wk.cell? ⟨w.heap.size, 1, none⟩ = _ := (cell_blk hz 1).trans rfl
  have c2 : wk.cell? ⟨w.heap.size, 2, none⟩ = _ := (cell_blk hz 2).trans rfl
  have c3 : wk.cell? ⟨w.heap.size, 3, none⟩ = _ := (cell_blk hz 3).trans rfl
  have f0 : ∀ o, wk.frozen? ⟨w.heap.size, o, none⟩ = false := fun o => frozen_blk hz o (by omega)
  clear hz HZ hb HB hP hG1 hD1 hG0 hM'
  have HB := hI hb0
  clear hb0
  go_wp2
  refine bodyPost_ret (v := .tuple #[tmo (some s), .nilIface]) ?_ rfl ⟨rfl, ?_⟩
  ·simp [results, Tryz.results48, go_sem, c0, c1, c2, c3, f0, tmo]
  ·exact (((HB.out.setCell (by simp) _).setCell (by simp) _).setCell (by simp) _).setCell (by simp) _
def nmSTART : ByteArray := { data := #[68, 84, 83, 84, 65, 82, 84] }
def nmEND : ByteArray := { data := #[68, 84, 69, 78, 68] }
def nmDUR : ByteArray := { data := #[68, 85, 82, 65, 84, 73, 79, 78] }
def nmRRULE : ByteArray := { data := #[82, 82, 85, 76, 69] }
theorem up_START : upper nmSTART = nmSTART := by decide +kernel
theorem up_END : upper nmEND = nmEND := by decide +kernel
theorem up_DUR : upper nmDUR = nmDUR := by decide +kernel
theorem up_RRULE : upper nmRRULE = nmRRULE := by decide +kernel
theorem CompIn.open_ {w : World} {lo hi C : Nat} {x : S36} (h : CompIn w lo hi C x) : ∃ P0 A c ch gs, lo ≤ C ∧ C < hi ∧ w.heap[C]? = some (.cells #[.string x.f0, .map (some P0), .slice A x.f2.length c] 110) ∧ QIn w lo hi P0 x.f1 gs ∧ ch.length = x.f2.length ∧ KRow w lo hi A ch ∧ (∀ (i Ci : Nat) (y : S36), ch[i]? = some Ci → x.f2[i]? = some y → CompIn w lo hi Ci y) := by
 cases h with
 | mk C P0 x A c ch gs a b c' d e f g => exact ⟨P0, A, c, ch, gs, a, b, c', d, e, f, g⟩
theorem evStart (w : World) (eb C lo hi : Nat) (x : S36) (f : ByteArray → Option ByteArray) (loc : ByteArray) (r : Option Int) (he : w.cell? ⟨eb, 0, none⟩ = some (.pointer (some ⟨C, 0, none⟩))) (hC : CompIn w lo hi C x) (hh : hi ≤ w.heap.size)
  (hD : Dv w f) (hG : Gl w) (hM : MomO f (firstP x.f1 nmSTART) r) :
  Calls Tryz.prog 150 #[.pointer (some ⟨eb, 0, none⟩), .string loc] w fun e w' => e = .returned (.tuple #[tmo r, .nilIface]) ∧ Below w.heap.size w w' := by
 have hG0 : ∀ o, Gl (w.alloc o) := fun o => hG.below ((Below.refl _ _).alloc (Nat.le_refl _) o) hG.size
 have hD0 : ∀ o, Dv (w.alloc o) f := fun o => hD.below (below_alloc (Below.refl _ _) o)
 obtain ⟨P0, A, c, ch, gs, h1, h2, h3, h4, -, -, -⟩ := hC.open_
 have hQ0 : ∀ o, QIn (w.alloc o) lo hi P0 x.f1 gs := fun o => h4.later hh (below_alloc (Below.refl _ _) o)
 have k1 : w.cell? ⟨C, 1, none⟩ = some (.map (some P0)) := (cell_blk h3 1).trans rfl
 have e0 : ∀ o, (w.alloc o).cell? ⟨eb, 0, none⟩ = _ := fun o => pw_cell_below (below_alloc (Below.refl _ _) o) he
 have e1 : ∀ o, (w.alloc o).cell? ⟨C, 1, none⟩ = _ := fun o => pw_cell_below (below_alloc (Below.refl _ _) o) k1
 clear hD hC h4 h3 he k1
 go_enter Tryz.func150, Tryz.ntmps150
 go_wp2_with fail
 refine (propsDateTime _ lo hi P0 x.f1 gs nmSTART f loc r (hQ0 _) (by simp; omega) up_START (by decide) (hD0 _) (hG0 _) hM).mono ?_
 rintro e wk ⟨rfl, hb⟩
 have hz := below_blk hb (new_blk w _)
 have hb0 : Below w.heap.size w wk := ((Below.refl _ _).alloc (Nat.le_refl _) _).trans (hb.mono (by simp))
 have c0 : wk.cell? ⟨w.heap.size, 0, none⟩ = _ := (cell_blk hz 0).trans rfl
 have c1 : wk.cell? ⟨w.heap.size, 1, none⟩ = _ := (cell_blk hz 1).trans rfl
 have c2 : wk.cell? ⟨w.heap.size, 2, none⟩ = _ := (cell_blk hz 2).trans rfl
 have c3 : wk.cell? ⟨w.heap.size, 3, none⟩ = _ := (cell_blk hz 3).trans rfl
 have f0 : ∀ o, wk.frozen? ⟨w.heap.size, o, none⟩ = false := fun o => frozen_blk hz o (by omega)
 have HB := hI hb0
 clear hb hz hb0 hM e0 e1 hQ0 hD0 hG0
 cases r with
 | none =>
  unfold tmo
  go_wp2
  refine bodyPost_ret (v := .tuple #[.agg #[.int .i64 0, .int .i32 0, .string { data := #[] }, .int .i64 0], .nilIface]) ?_ rfl ⟨rfl, ?_⟩
  ·simp [results, Tryz.results150, go_sem, c0, c1, c2, c3, f0]
  ·exact (((HB.out.setCell (by simp) _).setCell (by simp) _).setCell (by simp) _).setCell (by simp) _
 | some s =>
  unfold tmo
  go_wp2
  refine bodyPost_ret (v := .tuple #[.agg #[.int .i64 (s + 62135596800), .int .i32 0, .string { data := #[85, 84, 67] }, .int .i64 0], .nilIface]) ?_ rfl ⟨rfl, ?_⟩
  ·simp [results, Tryz.results150, go_sem, c0, c1, c2, c3, f0]
  ·exact (((HB.out.setCell (by simp) _).setCell (by simp) _).setCell (by simp) _).setCell (by simp) _
theorem noRule (w : World) (lo hi P0 : Nat) (ps : List S75) (gs : List GP) (h : QIn w lo hi P0 ps gs) (hh : hi ≤ w.heap.size) (hM : firstP ps nmRRULE = none) :
  Calls Tryz.prog 46 #[.map (some P0)] w fun e w' => e = .returned (.tuple #[.pointer none, .nilIface]) ∧ Below w.heap.size w w' := by
 go_enter Tryz.func46, Tryz.ntmps46
 go_wp2_with fail
 refine (propsGet _ lo hi P0 ps gs nmRRULE h hh up_RRULE (by decide)).mono ?_
 rw [hM]
 intro e w1 hpost
 rcases hpost with ⟨-, rfl, hb⟩ | ⟨p, g, hr, rfl, hP, hb⟩
 ·have HB := hI hb
  clear hb h
  go_wp2
  exact bodyPost_ret (v := .tuple #[.pointer none, .nilIface]) (by simp [results, Tryz.results46, go_sem]) rfl ⟨rfl, HB.out⟩
 ·cases hr
theorem noSet (w : World) (C lo hi : Nat) (x : S36) (loc : ByteArray) (hC : CompIn w lo hi C x) (hh : hi ≤ w.heap.size) (hM : firstP x.f1 nmRRULE = none) :
  Calls Tryz.prog 25 #[.pointer (some ⟨C, 0, none⟩), .string loc] w fun e w' => e = .returned (.tuple #[.pointer none, .nilIface]) ∧ Below w.heap.size w w' := by
 obtain ⟨P0, A, c, ch, gs, h1, h2, h3, h4, -, -, -⟩ := hC.open_
 have k1 : w.cell? ⟨C, 1, none⟩ = some (.map (some P0)) := (cell_blk h3 1).trans rfl
 clear hC h3
 go_enter Tryz.func25, Tryz.ntmps25
 go_wp2_with fail
 refine (noRule _ lo hi P0 x.f1 gs h4 hh hM).mono ?_
 rintro e w1 ⟨rfl, hb⟩
 have HB := hI hb
 clear hb h4 hM
 go_wp2
 exact bodyPost_ret (v := .tuple #[.pointer none, .nilIface]) (by simp [results, Tryz.results25, go_sem]) rfl ⟨rfl, HB.out⟩
end Go.Proofs.YtcllaplddebilaaGreatDoor
end
section
namespace Go.Proofs.YtcllaplddebilaaGreatDoor
open Go.RowKit Go.Sort
attribute [local go_sem] cell?_grow frozen?_grow cell?_redrawn frozen?_redrawn size_redrawn size_grow ba_get ba_extract
attribute [local simp] size_redrawn
open Go.Lib Go.Proofs.YtcllaplddebilaaGreatDoorW.PrintWords Go.Proofs.YtcllaplddebilaaGreatDoorW.PrintLast Go.Proofs.YtcllaplddebilaaGreatDoorW.PrintMore
theorem tl_ne {a b : ByteArray} (h : ¬ a = b) : (a.toList == b.toList) = false := by
 rw [beq_eq_false_iff_ne]
 intro e
 rw [Lib.toList_data, Lib.toList_data] at e
 obtain ⟨⟨a⟩⟩ := a
 obtain ⟨⟨b⟩⟩ := b
 have e : a = b := e
 subst e
 exact h rfl
def holdF : Nat → ByteArray → ByteArray → Nat → Bool
 | 0, _, _, _ => false
 | n + 1, s, t, i => if i + t.size ≤ s.size then (if s.extract i (i + t.size) = t then true else holdF n s t (i + 1)) else false
def holdB (s t : ByteArray) : Bool := holdF (s.size + 2) s t 0
theorem holds_is (s t : ByteArray) (w : World) (hm : s.size ≤ 140737488351232) (ht : t.size ≤ 140737488351232) : Calls Tryz.prog 148 #[.string s, .string t] w fun e w' => e = .returned (.bool (holdB s t)) ∧ Below w.heap.size w w' := by
 go_enter Tryz.func148, Tryz.ntmps148
 go_wp2
 go_loopw [5] (fun i wr => ∃ k n : Nat, k ≤ s.size + 1 ∧ i = .int .i64 k ∧ Below w.heap.size w wr ∧ s.size + 1 - k < n ∧ Hid (holdF (s.size + 2) s t 0 = holdF n s t k)) (fun i _ => s.size + 1 - (RowKit.intOf i).toNat)
 case atStart => exact ⟨0, s.size + 2, Nat.zero_le _, rfl, Below.refl _ _, by omega, hI rfl⟩
 case round =>
  obtain ⟨k, n, hk, rfl, hB, hn, hF⟩ := hrel
  obtain ⟨n, rfl⟩ : ∃ m, n = m + 1 := ⟨n - 1, by omega⟩
  by_cases hlt : k + t.size ≤ s.size
  ·have hl1 : (k : Int) + (t.size : Int) ≤ (s.size : Int) := by omega
   by_cases he : s.extract k (k + t.size) = t
   ·have hV : Hid (holdF (s.size + 2) s t 0 = true) := hI (hF.out.trans (by show (if _ then _ else _) = _; rw [if_pos hlt, if_pos he]))
    have hd : decide (s.extract k (k + t.size) = t) = true := decide_eq_true he
    clear hF
    have HB := hI hB
    clear hB
    go_wp2
    go_ret
    exact ⟨by show _ = Ending.returned (.bool (holdF (s.size + 2) s t 0)); rw [hV.out]; rfl, HB.out⟩
   ·have hF2 : Hid (holdF (s.size + 2) s t 0 = holdF n s t (k + 1)) := hI (hF.out.trans (by show (if _ then _ else _) = _; rw [if_pos hlt, if_neg he]))
    have hd : ((s.extract k (k + t.size)).toList == t.toList) = false := tl_ne he
    clear hF
    have HB := hI hB
    clear hB
    go_wp2
    exact ⟨⟨k + 1, n, by omega, by go_num, HB.out, by omega, hF2⟩, by simp [RowKit.intOf]; omega⟩
  ·have hl1 : ¬ (k : Int) + (t.size : Int) ≤ (s.size : Int) := by omega
   have hV : Hid (holdF (s.size + 2) s t 0 = false) := hI (hF.out.trans (by show (if _ then _ else _) = _; rw [if_neg hlt]))
   clear hF
   have HB := hI hB
   clear hB
   go_wp2
   go_ret
   exact ⟨by show _ = Ending.returned (.bool (holdF (s.size + 2) s t 0)); rw [hV.out]; rfl, HB.out⟩
theorem zzIndex_is (s t : ByteArray) (w : World) (hm : s.size ≤ 140737488351232) (ht : t.size ≤ 140737488351232) : Calls Tryz.prog 272 #[.string s, .string t] w fun e w' => (∃ r : Int, e = .returned (.int .i64 r) ∧ decide (0 ≤ r) = holdB s t) ∧ Below w.heap.size w w' := by
 go_enter Tryz.func272, Tryz.ntmps272
 go_wp2
 go_loopw [5] (fun i wr => ∃ k n : Nat, k ≤ s.size + 1 ∧ i = .int .i64 k ∧ Below w.heap.size w wr ∧ s.size + 1 - k < n ∧ Hid (holdF (s.size + 2) s t 0 = holdF n s t k)) (fun i _ => s.size + 1 - (RowKit.intOf i).toNat)
 case atStart => exact ⟨0, s.size + 2, Nat.zero_le _, rfl, Below.refl _ _, by omega, hI rfl⟩
 case round =>
  obtain ⟨k, n, hk, rfl, hB, hn, hF⟩ := hrel
  obtain ⟨n, rfl⟩ : ∃ m, n = m + 1 := ⟨n - 1, by omega⟩
  by_cases hlt : k + t.size ≤ s.size
  ·have hl1 : (k : Int) + (t.size : Int) ≤ (s.size : Int) := by omega
   by_cases he : s.extract k (k + t.size) = t
   ·have hV : Hid (holdF (s.size + 2) s t 0 = true) := hI (hF.out.trans (by show (if _ then _ else _) = _; rw [if_pos hlt, if_pos he]))
    have hd : decide (s.extract k (k + t.size) = t) = true := decide_eq_true he
    clear hF
    have HB := hI hB
    clear hB
    go_wp2
    go_ret
    exact ⟨⟨k, rfl, by show _ = holdF (s.size + 2) s t 0; rw [hV.out]; exact decide_eq_true (by omega)⟩, HB.out⟩
   ·have hF2 : Hid (holdF (s.size + 2) s t 0 = holdF n s t (k + 1)) := hI (hF.out.trans (by show (if _ then _ else _) = _; rw [if_pos hlt, if_neg he]))
    have hd : ((s.extract k (k + t.size)).toList == t.toList) = false := tl_ne he
    clear hF
    have HB := hI hB
    clear hB
    go_wp2
    exact ⟨⟨k + 1, n, by omega, by go_num, HB.out, by omega, hF2⟩, by simp [RowKit.intOf]; omega⟩
  ·have hl1 : ¬ (k : Int) + (t.size : Int) ≤ (s.size : Int) := by omega
   have hV : Hid (holdF (s.size + 2) s t 0 = false) := hI (hF.out.trans (by show (if _ then _ else _) = _; rw [if_neg hlt]))
   clear hF
   have HB := hI hB
   clear hB
   go_wp2
   go_ret
   exact ⟨⟨-1, rfl, by show _ = holdF (s.size + 2) s t 0; rw [hV.out]; rfl⟩, HB.out⟩
theorem zzContains_is (s t : ByteArray) (w : World) (hm : s.size ≤ 140737488351232) (ht : t.size ≤ 140737488351232) : Calls Tryz.prog 208 #[.string s, .string t] w fun e w' => e = .returned (.bool (holdB s t)) ∧ Below w.heap.size w w' := by
 go_enter Tryz.func208, Tryz.ntmps208
 go_wp2_with fail
 refine (zzIndex_is s t w hm ht).mono ?_
 rintro e w1 ⟨⟨r, rfl, hr⟩, hB⟩
 have hr := hI hr
 have HB := hI hB
 clear hB
 go_wp2
 go_ret
 exact ⟨by rw [← hr.out]; rfl, HB.out⟩
end Go.Proofs.YtcllaplddebilaaGreatDoor
end
section
namespace Go.Proofs.YtcllaplddebilaaGreatDoor
open Go.RowKit Go.Sort
attribute [local go_sem] cell?_grow frozen?_grow cell?_redrawn frozen?_redrawn size_redrawn size_grow ba_get ba_extract
attribute [local simp] size_redrawn
open Go.Lib Go.Proofs.YtcllaplddebilaaGreatDoorW.PrintWords Go.Proofs.YtcllaplddebilaaGreatDoorW.PrintLast Go.Proofs.YtcllaplddebilaaGreatDoorW.PrintMore PFnKMatch
theorem expectDur (w : World) (g : Nat) (p : S75) (f : ByteArray → Option ByteArray) (h : PrAt w g p) (hD : Dv w f) (hV : valT f p = nmDUR) :
  Calls Tryz.prog 78 #[.pointer (some ⟨g, 0, none⟩), .string nmDUR] w fun e w' => e = .returned (.nilIface) ∧ Below w.heap.size w w' := by
 have hc : ∀ w, PrAt w g p → Dv w f → Calls Tryz.prog 85 #[.pointer (some ⟨g, 0, none⟩)] w fun e w' => e = .returned (.string nmDUR) ∧ Below w.heap.size w w' := fun w h1 h2 => by rw [← hV]; exact valueType w g p f h1 h2
 unfold nmDUR at hc ⊢
 go_enter Tryz.func78, Tryz.ntmps78
 go_wp2_with fail
 refine (hc _ h hD).mono ?_
 rintro e w1 ⟨rfl, hb⟩
 have HB := hI hb
 clear hb hc
 go_wp2
 go_ret
 exact ⟨rfl, HB.out⟩
def DurB (w : World) (b : Nat) (t : ByteArray) : Prop := w.heap[b]? = some (.cells #[.string t] 394)
theorem consume_no (w : World) (b : Nat) (t : ByteArray) (c : Int) (hb : DurB w b t) (ht : t.size ≤ 100000000) (h : t.size = 0 ∨ ∃ h0 : 0 < t.size, ((t[0]'h0).toNat : Int) ≠ c) :
  Calls Tryz.prog 304 #[.pointer (some ⟨b, 0, none⟩), .int .u8 c] w fun e w' => e = .returned (.bool false) ∧ w' = w := by
 have c0 : w.cell? ⟨b, 0, none⟩ = some (.string t) := (cell_blk hb 0).trans rfl
 rcases h with h | ⟨h0, hx⟩
 ·have hz : (t.size : Int) = 0 := by omega
  go_enter Tryz.func304, Tryz.ntmps304
  go_wp2
  go_ret
  exact ⟨rfl, rfl⟩
 ·have hz : decide ((t.size : Int) = 0) = false := decide_eq_false (by omega)
  have hz2 : ((t.size : Int) == 0) = false := beq_eq_false_iff_ne.2 (by omega)
  have hp : (0 : Int) < (t.size : Int) := by omega
  have hne : (((t[0]'h0).toNat : Int) != c) = true := bne_iff_ne.2 hx
  go_enter Tryz.func304, Tryz.ntmps304
  go_wp2
  go_ret
  exact ⟨rfl, rfl⟩
theorem consume_yes (w : World) (b : Nat) (t : ByteArray) (c : Int) (hb : DurB w b t) (ht : t.size ≤ 100000000) (h0 : 0 < t.size) (hx : ((t[0]'h0).toNat : Int) = c) :
  Calls Tryz.prog 304 #[.pointer (some ⟨b, 0, none⟩), .int .u8 c] w fun e w' => e = .returned (.bool true) ∧ w' = w.setCell ⟨b, 0, none⟩ (.string (t.extract 1 t.size)) := by
 have c0 : w.cell? ⟨b, 0, none⟩ = some (.string t) := (cell_blk hb 0).trans rfl
 have f0 : w.frozen? ⟨b, 0, none⟩ = false := frozen_blk hb 0 (by omega)
 have hz2 : ((t.size : Int) == 0) = false := beq_eq_false_iff_ne.2 (by omega)
 have hp : (0 : Int) < (t.size : Int) := by omega
 have hne : (((t[0]'h0).toNat : Int) != c) = false := bne_eq_false_iff_eq.2 hx
 have hp1 : (1 : Int) ≤ (t.size : Int) := by omega
 go_enter Tryz.func304, Tryz.ntmps304
 go_wp2
 go_ret
 exact ⟨rfl, rfl⟩
theorem dec_bd : ∀ (l : List UInt8) (acc : Int), digs l → 0 ≤ acc → 0 ≤ dec l acc ∧ dec l acc < (acc + 1) * 10 ^ l.length
 | [], acc, _, h0 => ⟨h0, by show acc < (acc + 1) * 1; omega⟩
 | c :: l, acc, hd, h0 => by
  have hc := hd c List.mem_cons_self
  obtain ⟨a, b⟩ := dec_bd l (10 * acc + ((c.toNat : Int) - 48)) (fun x hx => hd x (List.mem_cons_of_mem _ hx)) (by omega)
  refine ⟨a, Int.lt_of_lt_of_le b ?_⟩
  have hp : (10 : Int) ^ (c :: l).length = 10 * 10 ^ l.length := by rw [List.length_cons, Int.pow_succ, Int.mul_comm]
  have h1 : (0 : Int) ≤ 10 ^ l.length := by
   have := Int.pow_pos (n := (10 : Int)) (m := l.length) (by decide)
   omega
  rw [hp, ← Int.mul_assoc]
  exact Int.mul_le_mul_of_nonneg_right (by omega) h1
theorem parseCount (w : World) (b : Nat) (t : ByteArray) (k : Nat) (hb : DurB w b t) (ht : t.size ≤ 100000000) (hk1 : 1 ≤ k) (hk4 : k ≤ 4) (hlt : k < t.size) (hdg : digs (t.extract 0 k).toList) (hd : ∀ j (h : j < t.size), j < k → dgt (t[j]'h)) (hn : ¬ dgt (t[k]'hlt)) (ha : (t[k]'hlt).toNat < 128) :
  Calls Tryz.prog 305 #[.pointer (some ⟨b, 0, none⟩)] w fun e w' => e = .returned (.tuple #[.int .i64 (dec (t.extract 0 k).toList 0), .nilIface]) ∧ ∃ w1, Below w.heap.size w w1 ∧ w' = w1.setCell ⟨b, 0, none⟩ (.string (t.extract k t.size)) := by
 have hsz : (t.extract 0 k).size = k := by rw [ByteArray.size_extract]; omega
 have hbd := dec_bd (t.extract 0 k).toList 0 hdg (by omega)
 have h9 : dec (t.extract 0 k).toList 0 < 10000 := by
  refine Int.lt_of_lt_of_le hbd.2 ?_
  rw [tl_len, hsz]
  have : (10 : Nat) ^ k ≤ 10 ^ 4 := Nat.pow_le_pow_right (by decide) hk4
  have h2 : (10 : Int) ^ k ≤ 10 ^ 4 := by exact_mod_cast this
  omega
 have h0 := hbd.1
 clear hbd
 have hc1 : ∀ w, Calls Tryz.prog 315 #[.string t] w fun e w' => e = .returned (.int .i64 k) ∧ Below w.heap.size w w' := fun w => noDigit t k w hlt hd hn ha (by omega)
 have hc2 : ∀ w, Calls Tryz.prog 316 #[.string (t.extract 0 k), .int .i64 10, .int .i64 64] w fun e w' => e = .returned (.tuple #[.int .u64 (dec (t.extract 0 k).toList 0), .nilIface]) ∧ Below w.heap.size w w' := fun w => parseUint _ w hdg (by omega) (by omega)
 generalize dec (t.extract 0 k).toList 0 = n at hc2 h9 h0 ⊢
 clear hd hn ha hdg hsz
 have c0 : w.cell? ⟨b, 0, none⟩ = some (.string t) := (cell_blk hb 0).trans rfl
 go_enter Tryz.func305, Tryz.ntmps305
 go_wp2_with fail
 refine (hc1 w).mono ?_
 rintro e w1 ⟨rfl, hb1⟩
 have H1 := below_blk hb1 hb
 have d0 : w1.cell? ⟨b, 0, none⟩ = some (.string t) := (cell_blk H1 0).trans rfl
 have H1 := hI H1
 have HB := hI hb1
 clear hb1 hc1 c0 hb
 have x0 : ((k : Int) == 0) = false := beq_eq_false_iff_ne.2 (by omega)
 have x1 : decide ((k : Int) < 0) = false := decide_eq_false (by omega)
 have x2 : (k : Int) ≤ (t.size : Int) := by omega
 go_wp2_with fail
 refine (hc2 w1).mono ?_
 rintro e w2 ⟨rfl, hb1⟩
 have H2 := below_blk hb1 H1.out
 have d0 : w2.cell? ⟨b, 0, none⟩ = some (.string t) := (cell_blk H2 0).trans rfl
 have f0 : w2.frozen? ⟨b, 0, none⟩ = false := frozen_blk H2 0 (by omega)
 have HB := hI (HB.out.trans (hb1.mono HB.out.size))
 clear hb1 hc2 H1
 go_wp2
 exact bodyPost_ret (v := .tuple #[.int .i64 n, .nilIface]) (by simp [results, Tryz.results305, go_sem]) rfl ⟨rfl, w2, HB.out, rfl⟩
def Wt (tm : Bool) (u : Nat) (wt : Int) : Prop := (tm = false ∧ ((u = 68 ∧ wt = 86400) ∨ (u = 87 ∧ wt = 604800))) ∨ (tm = true ∧ ((u = 72 ∧ wt = 3600) ∨ (u = 77 ∧ wt = 60) ∨ (u = 83 ∧ wt = 1)))
structure SegT (t : ByteArray) (k : Nat) (u : Nat) (n : Int) : Prop where
 lt : k < t.size
 k1 : 1 ≤ k
 k4 : k ≤ 4
 ds : digs (t.extract 0 k).toList
 each : ∀ j (h : j < t.size), j < k → dgt (t[j]'h)
 unit : (t[k]'lt).toNat = u
 num : n = dec (t.extract 0 k).toList 0
 small : n ≤ 1000
def restT (t : ByteArray) (k : Nat) : ByteArray := (t.extract k t.size).extract 1 (t.extract k t.size).size
inductive DurT : Bool → ByteArray → Int → Prop
 | done (tm : Bool) (t : ByteArray) : t.size = 0 → DurT tm t 0
 | date (t : ByteArray) (k u : Nat) (n wt s : Int) : SegT t k u n → Wt false u wt → DurT false (restT t k) s → DurT false t (n * wt + s)
 | first (t t2 : ByteArray) (h : 0 < t.size) (k u : Nat) (n wt s : Int) : (t[0]'h).toNat = 84 → t2 = t.extract 1 t.size → SegT t2 k u n → Wt true u wt → DurT true (restT t2 k) s → DurT false t (n * wt + s)
 | time (t : ByteArray) (k u : Nat) (n wt s : Int) : SegT t k u n → Wt true u wt → DurT true (restT t k) s → DurT true t (n * wt + s)
theorem SegT.nonneg {t : ByteArray} {k u : Nat} {n : Int} (h : SegT t k u n) : 0 ≤ n := by
 rw [h.num]; exact (dec_bd _ 0 h.ds (by omega)).1
theorem SegT.bd {t : ByteArray} {k u : Nat} {n wt : Int} {tm : Bool} (h : SegT t k u n) (hw : Wt tm u wt) : 0 ≤ n * wt := by
 have := h.nonneg
 rcases hw with ⟨_, ⟨_, rfl⟩ | ⟨_, rfl⟩⟩ | ⟨_, ⟨_, rfl⟩ | ⟨_, rfl⟩ | ⟨_, rfl⟩⟩ <;> omega
theorem DurT.nonneg {tm : Bool} {t : ByteArray} {s : Int} (h : DurT tm t s) : 0 ≤ s := by
 induction h with
 | done => omega
 | date t k u n wt s a b c ih => have := a.bd b; omega
 | first t t2 h k u n wt s a e b c d ih => have := b.bd c; omega
 | time t k u n wt s a b c ih => have := a.bd b; omega
theorem ex_size (t : ByteArray) (k : Nat) : (t.extract k t.size).size = t.size - k := by rw [ByteArray.size_extract]; omega
theorem ex_get0 (t : ByteArray) (k : Nat) (h : 0 < (t.extract k t.size).size) (hk : k < t.size) : (t.extract k t.size)[0]'h = t[k]'hk := by
 simp [ByteArray.getElem_extract]
theorem SegT.notT {t : ByteArray} {k u : Nat} {n : Int} (h : SegT t k u n) (h0 : 0 < t.size) (c : Nat) (hc : 57 < c) : ((t[0]'h0).toNat : Int) ≠ c := by
 have := h.each 0 h0 (by have := h.k1; omega)
 unfold dgt at this
 omega
theorem DurB.set {w : World} {b : Nat} {t : ByteArray} (h : DurB w b t) (t2 : ByteArray) : DurB (w.setCell ⟨b, 0, none⟩ (.string t2)) b t2 := (set_blk h 0 (.string t2)).trans rfl
theorem DurB.below {w w1 : World} {b : Nat} {t : ByteArray} (h : DurB w b t) (hb : Below w.heap.size w w1) : DurB w1 b t := below_blk hb h
theorem parseDur (w0 w : World) (b : Nat) (t : ByteArray) (total : Int) (h0 : 0 < t.size) (hP : (t[0]'h0).toNat = 80) (hb : DurB w b t) (hB : Below w0.heap.size w0 w) (hbw : w0.heap.size ≤ b) (ht : t.size ≤ 100000) (hT : DurT false (t.extract 1 t.size) total) (htot : total ≤ 9000000000) :
  Calls Tryz.prog 271 #[.pointer (some ⟨b, 0, none⟩)] w fun e w' => e = .returned (.tuple #[.int .i64 (total * 1000000000), .nilIface]) ∧ Below w0.heap.size w0 w' := by
 go_enter Tryz.func271, Tryz.ntmps271
 go_wp2_with fail
 refine (consume_no w b t 45 hb (by omega) (.inr ⟨h0, by rw [hP]; decide⟩)).mono ?_
 rintro e w1 ⟨rfl, hw⟩
 rw [hw]
 clear hw w1
 go_wp2_with fail
 refine (consume_no w b t 43 hb (by omega) (.inr ⟨h0, by rw [hP]; decide⟩)).mono ?_
 rintro e w1 ⟨rfl, hw⟩
 rw [hw]
 clear hw w1
 go_wp2_with fail
 refine (consume_yes w b t 80 hb (by omega) h0 (by rw [hP]; rfl)).mono ?_
 rintro e w1 ⟨rfl, hw⟩
 have hb1 : DurB w1 b (t.extract 1 t.size) := by rw [hw]; exact hb.set _
 have hB1 : Below w0.heap.size w0 w1 := by rw [hw]; exact hB.setCell hbw _
 clear hw hb hB
 obtain ⟨t1, ht1⟩ : ∃ x, x = t.extract 1 t.size := ⟨_, rfl⟩
 have hs1 : t1.size ≤ 100000 := by rw [ht1, ex_size]; omega
 rw [← ht1] at hb1 hT
 clear ht1 hP h0 ht
 have HT := hI hT
 have HB := hI hB1
 have HD := hI hb1
 clear hT hB1 hb1
 go_wp2_with fail
 go_loopg [5, 6] t1.size (fun g s5 s6 wr => ∃ (u : ByteArray) (tm : Bool) (d s : Int), g = u.size ∧ u.size ≤ 100000 ∧ s5 = .int .i64 (d * 1000000000) ∧ s6 = .bool tm ∧ 0 ≤ d ∧ d + s = total ∧ Hid (DurT tm u s) ∧ Hid (DurB wr b u) ∧ Hid (Below w0.heap.size w0 wr))
 case atStart => exact ⟨t1, false, 0, total, rfl, hs1, by simp, rfl, by omega, by omega, HT, HD, HB⟩
 case round =>
  clear HT HD HB hs1
  obtain ⟨u, tm, d, s, rfl, hs1, rfl, rfl, hd0, hds, HT, HD, HB⟩ := hrel
  have c0 : wr.cell? ⟨b, 0, none⟩ = some (.string u) := (cell_blk HD.out 0).trans rfl
  cases HT.out with
  | done tm u hu =>
   have hz : (u.size : Int) = 0 := by omega
   have hd : d * 1000000000 = total * 1000000000 := by omega
   rw [hd]
   clear HT HD
   go_wp2
   exact bodyPost_ret (v := .tuple #[.int .i64 (total * 1000000000), .nilIface]) (by simp [results, Tryz.results271, go_sem]) rfl ⟨rfl, HB.out⟩
  | date u k u0 n wt s0 hs hw hr =>
   have hu0 : 0 < u.size := by have := hs.lt; omega
   have hpos : (0 : Int) < (u.size : Int) := by omega
   have hb := HD.out
   clear HT HD
   go_wp2_with fail
   refine (consume_no wr b u 84 hb (by omega) (.inr ⟨hu0, hs.notT hu0 84 (by decide)⟩)).mono ?_
   rintro e w3 ⟨rfl, hw3⟩
   rw [hw3]
   clear hw3 w3
   go_wp2_with fail
   refine (parseCount wr b u k hb (by omega) hs.k1 hs.k4 hs.lt hs.ds hs.each (by have := hs.unit; have hu := hw; unfold dgt; rcases hu with ⟨_, ⟨h, _⟩ | ⟨h, _⟩⟩ | ⟨_, ⟨h, _⟩ | ⟨h, _⟩ | ⟨h, _⟩⟩ <;> omega) (by have := hs.unit; have hu := hw; rcases hu with ⟨_, ⟨h, _⟩ | ⟨h, _⟩⟩ | ⟨_, ⟨h, _⟩ | ⟨h, _⟩ | ⟨h, _⟩⟩ <;> omega)).mono ?_
   rintro e wy ⟨rfl, wz, hbz, hwy⟩
   rw [← hs.num]
   have hby : DurB wy b (u.extract k u.size) := by rw [hwy]; exact (hb.below hbz).set _
   have hBy : Below w0.heap.size w0 wy := by rw [hwy]; exact (HB.out.trans (hbz.mono HB.out.size)).setCell hbw _
   clear hwy hbz wz hb
   have hn0 := hs.nonneg
   have hn1 := hs.small
   have hy0 : 0 < (u.extract k u.size).size := by rw [ex_size]; have := hs.lt; omega
   have hyu : (((u.extract k u.size)[0]'hy0).toNat : Int) = u0 := by rw [ex_get0 _ _ _ hs.lt]; exact congrArg _ hs.unit
   have hys : (u.extract k u.size).size ≤ 100000 := by rw [ex_size]; omega
   have hrs : (restT u k).size < u.size := by unfold restT; rw [ex_size, ex_size]; have := hs.lt; omega
   have hrd : restT u k = (u.extract k u.size).extract 1 (u.extract k u.size).size := rfl
   have hbdn := hs.bd hw
   have hsn := DurT.nonneg hr
   have HR := hI hr
   clear hs HB hr
   generalize restT u k = rt at hrs hrd HR ⊢
   generalize u.extract k u.size = ty at hby hy0 hyu hys hrd
   have hu : (u0 = 68 ∧ wt = 86400) ∨ (u0 = 87 ∧ wt = 604800) := by rcases hw with ⟨h1, h2⟩ | ⟨h1, h2⟩ <;> first | exact h2 | cases h1
   clear hw
   rcases hu with ⟨rfl, rfl⟩ | ⟨rfl, rfl⟩
   ·go_wp2_with fail
    refine (consume_yes wy b ty 68 hby (by omega) hy0 (by rw [hyu]; rfl)).mono ?_
    rintro e w3 ⟨rfl, hw3⟩
    have hb3 : Hid (DurB w3 b rt) := hI (by rw [hw3, hrd]; exact hby.set _)
    have hB3 : Hid (Below w0.heap.size w0 w3) := hI (by rw [hw3]; exact hBy.setCell hbw _)
    clear hw3 hby hBy hyu hy0 hys hrd
    go_wp2
    go_roundg rt.size
    case measure => omega
    case rel => exact ⟨rt, false, d + n * 86400, s0, rfl, by omega, by go_num, rfl, by omega, by omega, HR, hb3, hB3⟩
   ·go_wp2_with fail
    refine (consume_no wy b ty 68 hby (by omega) (.inr ⟨hy0, by rw [hyu]; decide⟩)).mono ?_
    rintro e w3 ⟨rfl, hw3⟩
    rw [hw3]
    clear hw3 w3
    go_wp2_with fail
    refine (consume_yes wy b ty 87 hby (by omega) hy0 (by rw [hyu]; rfl)).mono ?_
    rintro e w3 ⟨rfl, hw3⟩
    have hb3 : Hid (DurB w3 b rt) := hI (by rw [hw3, hrd]; exact hby.set _)
    have hB3 : Hid (Below w0.heap.size w0 w3) := hI (by rw [hw3]; exact hBy.setCell hbw _)
    clear hw3 hby hBy hyu hy0 hys hrd
    go_wp2
    go_roundg rt.size
    case measure => omega
    case rel => exact ⟨rt, false, d + n * 604800, s0, rfl, by omega, by go_num, rfl, by omega, by omega, HR, hb3, hB3⟩
  | time u k u0 n wt s0 hs hw hr =>
   have hu0 : 0 < u.size := by have := hs.lt; omega
   have hpos : (0 : Int) < (u.size : Int) := by omega
   have hb := HD.out
   clear HT HD
   go_wp2_with fail
   refine (consume_no wr b u 84 hb (by omega) (.inr ⟨hu0, hs.notT hu0 84 (by decide)⟩)).mono ?_
   rintro e w3 ⟨rfl, hw3⟩
   rw [hw3]
   clear hw3 w3
   go_wp2_with fail
   refine (parseCount wr b u k hb (by omega) hs.k1 hs.k4 hs.lt hs.ds hs.each (by have := hs.unit; have hu := hw; unfold dgt; rcases hu with ⟨_, ⟨h, _⟩ | ⟨h, _⟩⟩ | ⟨_, ⟨h, _⟩ | ⟨h, _⟩ | ⟨h, _⟩⟩ <;> omega) (by have := hs.unit; have hu := hw; rcases hu with ⟨_, ⟨h, _⟩ | ⟨h, _⟩⟩ | ⟨_, ⟨h, _⟩ | ⟨h, _⟩ | ⟨h, _⟩⟩ <;> omega)).mono ?_
   rintro e wy ⟨rfl, wz, hbz, hwy⟩
   rw [← hs.num]
   have hby : DurB wy b (u.extract k u.size) := by rw [hwy]; exact (hb.below hbz).set _
   have hBy : Below w0.heap.size w0 wy := by rw [hwy]; exact (HB.out.trans (hbz.mono HB.out.size)).setCell hbw _
   clear hwy hbz wz hb
   have hn0 := hs.nonneg
   have hn1 := hs.small
   have hy0 : 0 < (u.extract k u.size).size := by rw [ex_size]; have := hs.lt; omega
   have hyu : (((u.extract k u.size)[0]'hy0).toNat : Int) = u0 := by rw [ex_get0 _ _ _ hs.lt]; exact congrArg _ hs.unit
   have hys : (u.extract k u.size).size ≤ 100000 := by rw [ex_size]; omega
   have hrs : (restT u k).size < u.size := by unfold restT; rw [ex_size, ex_size]; have := hs.lt; omega
   have hrd : restT u k = (u.extract k u.size).extract 1 (u.extract k u.size).size := rfl
   have hbdn := hs.bd hw
   have hsn := DurT.nonneg hr
   have HR := hI hr
   clear hs HB hr
   generalize restT u k = rt at hrs hrd HR ⊢
   generalize u.extract k u.size = ty at hby hy0 hyu hys hrd
   have hu : (u0 = 72 ∧ wt = 3600) ∨ (u0 = 77 ∧ wt = 60) ∨ (u0 = 83 ∧ wt = 1) := by rcases hw with ⟨h1, h2⟩ | ⟨h1, h2⟩ <;> first | exact h2 | cases h1
   clear hw
   rcases hu with ⟨rfl, rfl⟩ | ⟨rfl, rfl⟩ | ⟨rfl, rfl⟩
   ·go_wp2_with fail
    refine (consume_yes wy b ty 72 hby (by omega) hy0 (by rw [hyu]; rfl)).mono ?_
    rintro e w3 ⟨rfl, hw3⟩
    have hb3 : Hid (DurB w3 b rt) := hI (by rw [hw3, hrd]; exact hby.set _)
    have hB3 : Hid (Below w0.heap.size w0 w3) := hI (by rw [hw3]; exact hBy.setCell hbw _)
    clear hw3 hby hBy hyu hy0 hys hrd
    go_wp2
    go_roundg rt.size
    case measure => omega
    case rel => exact ⟨rt, true, d + n * 3600, s0, rfl, by omega, by go_num, rfl, by omega, by omega, HR, hb3, hB3⟩
   ·go_wp2_with fail
    refine (consume_no wy b ty 72 hby (by omega) (.inr ⟨hy0, by rw [hyu]; decide⟩)).mono ?_
    rintro e w3 ⟨rfl, hw3⟩
    rw [hw3]
    clear hw3 w3
    go_wp2_with fail
    refine (consume_yes wy b ty 77 hby (by omega) hy0 (by rw [hyu]; rfl)).mono ?_
    rintro e w3 ⟨rfl, hw3⟩
    have hb3 : Hid (DurB w3 b rt) := hI (by rw [hw3, hrd]; exact hby.set _)
    have hB3 : Hid (Below w0.heap.size w0 w3) := hI (by rw [hw3]; exact hBy.setCell hbw _)
    clear hw3 hby hBy hyu hy0 hys hrd
    go_wp2
    go_roundg rt.size
    case measure => omega
    case rel => exact ⟨rt, true, d + n * 60, s0, rfl, by omega, by go_num, rfl, by omega, by omega, HR, hb3, hB3⟩
   ·go_wp2_with fail
    refine (consume_no wy b ty 72 hby (by omega) (.inr ⟨hy0, by rw [hyu]; decide⟩)).mono ?_
    rintro e w3 ⟨rfl, hw3⟩
    rw [hw3]
    clear hw3 w3
    go_wp2_with fail
    refine (consume_no wy b ty 77 hby (by omega) (.inr ⟨hy0, by rw [hyu]; decide⟩)).mono ?_
    rintro e w3 ⟨rfl, hw3⟩
    rw [hw3]
    clear hw3 w3
    go_wp2_with fail
    refine (consume_yes wy b ty 83 hby (by omega) hy0 (by rw [hyu]; rfl)).mono ?_
    rintro e w3 ⟨rfl, hw3⟩
    have hb3 : Hid (DurB w3 b rt) := hI (by rw [hw3, hrd]; exact hby.set _)
    have hB3 : Hid (Below w0.heap.size w0 w3) := hI (by rw [hw3]; exact hBy.setCell hbw _)
    clear hw3 hby hBy hyu hy0 hys hrd
    go_wp2
    go_roundg rt.size
    case measure => omega
    case rel => exact ⟨rt, true, d + n * 1, s0, rfl, by omega, by go_num, rfl, by omega, by omega, HR, hb3, hB3⟩
  | first u t2 hu0 k u0 n wt s0 hc ht2 hs hw hr =>
   have hpos : (0 : Int) < (u.size : Int) := by omega
   have hb := HD.out
   clear HT HD
   go_wp2_with fail
   refine (consume_yes wr b u 84 hb (by omega) hu0 (by rw [hc]; rfl)).mono ?_
   rintro e w3 ⟨rfl, hw3⟩
   have hb : DurB w3 b t2 := by rw [hw3, ht2]; exact hb.set _
   have HB : Hid (Below w0.heap.size w0 w3) := hI (by rw [hw3]; exact HB.out.setCell hbw _)
   have hs2 : t2.size < u.size := by rw [ht2, ex_size]; omega
   clear hw3 ht2 hc c0
   go_wp2_with fail
   refine (parseCount w3 b t2 k hb (by omega) hs.k1 hs.k4 hs.lt hs.ds hs.each (by have := hs.unit; have hu := hw; unfold dgt; rcases hu with ⟨_, ⟨h, _⟩ | ⟨h, _⟩⟩ | ⟨_, ⟨h, _⟩ | ⟨h, _⟩ | ⟨h, _⟩⟩ <;> omega) (by have := hs.unit; have hu := hw; rcases hu with ⟨_, ⟨h, _⟩ | ⟨h, _⟩⟩ | ⟨_, ⟨h, _⟩ | ⟨h, _⟩ | ⟨h, _⟩⟩ <;> omega)).mono ?_
   rintro e wy ⟨rfl, wz, hbz, hwy⟩
   rw [← hs.num]
   have hby : DurB wy b (t2.extract k t2.size) := by rw [hwy]; exact (hb.below hbz).set _
   have hBy : Below w0.heap.size w0 wy := by rw [hwy]; exact (HB.out.trans (hbz.mono HB.out.size)).setCell hbw _
   clear hwy hbz wz hb
   have hn0 := hs.nonneg
   have hn1 := hs.small
   have hy0 : 0 < (t2.extract k t2.size).size := by rw [ex_size]; have := hs.lt; omega
   have hyu : (((t2.extract k t2.size)[0]'hy0).toNat : Int) = u0 := by rw [ex_get0 _ _ _ hs.lt]; exact congrArg _ hs.unit
   have hys : (t2.extract k t2.size).size ≤ 100000 := by rw [ex_size]; omega
   have hrs : (restT t2 k).size < t2.size := by unfold restT; rw [ex_size, ex_size]; have := hs.lt; omega
   have hrd : restT t2 k = (t2.extract k t2.size).extract 1 (t2.extract k t2.size).size := rfl
   have hbdn := hs.bd hw
   have hsn := DurT.nonneg hr
   have HR := hI hr
   clear hs hr
   generalize restT t2 k = rt at hrs hrd HR ⊢
   generalize t2.extract k t2.size = ty at hby hy0 hyu hys hrd
   have hu : (u0 = 72 ∧ wt = 3600) ∨ (u0 = 77 ∧ wt = 60) ∨ (u0 = 83 ∧ wt = 1) := by rcases hw with ⟨h1, h2⟩ | ⟨h1, h2⟩ <;> first | exact h2 | cases h1
   clear hw
   rcases hu with ⟨rfl, rfl⟩ | ⟨rfl, rfl⟩ | ⟨rfl, rfl⟩
   ·go_wp2_with fail
    refine (consume_yes wy b ty 72 hby (by omega) hy0 (by rw [hyu]; rfl)).mono ?_
    rintro e w3 ⟨rfl, hw3⟩
    have hb3 : Hid (DurB w3 b rt) := hI (by rw [hw3, hrd]; exact hby.set _)
    have hB3 : Hid (Below w0.heap.size w0 w3) := hI (by rw [hw3]; exact hBy.setCell hbw _)
    clear hw3 hby hBy hyu hy0 hys hrd
    go_wp2
    go_roundg rt.size
    case measure => omega
    case rel => exact ⟨rt, true, d + n * 3600, s0, rfl, by omega, by go_num, rfl, by omega, by omega, HR, hb3, hB3⟩
   ·go_wp2_with fail
    refine (consume_no wy b ty 72 hby (by omega) (.inr ⟨hy0, by rw [hyu]; decide⟩)).mono ?_
    rintro e w3 ⟨rfl, hw3⟩
    rw [hw3]
    clear hw3 w3
    go_wp2_with fail
    refine (consume_yes wy b ty 77 hby (by omega) hy0 (by rw [hyu]; rfl)).mono ?_
    rintro e w3 ⟨rfl, hw3⟩
    have hb3 : Hid (DurB w3 b rt) := hI (by rw [hw3, hrd]; exact hby.set _)
    have hB3 : Hid (Below w0.heap.size w0 w3) := hI (by rw [hw3]; exact hBy.setCell hbw _)
    clear hw3 hby hBy hyu hy0 hys hrd
    go_wp2
    go_roundg rt.size
    case measure => omega
    case rel => exact ⟨rt, true, d + n * 60, s0, rfl, by omega, by go_num, rfl, by omega, by omega, HR, hb3, hB3⟩
   ·go_wp2_with fail
    refine (consume_no wy b ty 72 hby (by omega) (.inr ⟨hy0, by rw [hyu]; decide⟩)).mono ?_
    rintro e w3 ⟨rfl, hw3⟩
    rw [hw3]
    clear hw3 w3
    go_wp2_with fail
    refine (consume_no wy b ty 77 hby (by omega) (.inr ⟨hy0, by rw [hyu]; decide⟩)).mono ?_
    rintro e w3 ⟨rfl, hw3⟩
    rw [hw3]
    clear hw3 w3
    go_wp2_with fail
    refine (consume_yes wy b ty 83 hby (by omega) hy0 (by rw [hyu]; rfl)).mono ?_
    rintro e w3 ⟨rfl, hw3⟩
    have hb3 : Hid (DurB w3 b rt) := hI (by rw [hw3, hrd]; exact hby.set _)
    have hB3 : Hid (Below w0.heap.size w0 w3) := hI (by rw [hw3]; exact hBy.setCell hbw _)
    clear hw3 hby hBy hyu hy0 hys hrd
    go_wp2
    go_roundg rt.size
    case measure => omega
    case rel => exact ⟨rt, true, d + n * 1, s0, rfl, by omega, by go_num, rfl, by omega, by omega, HR, hb3, hB3⟩
def LastP (v : ByteArray) (n : Int) : Prop := (∃ h0 : 0 < v.size, (v[0]'h0).toNat = 80) ∧ v.size ≤ 100000 ∧ upper v = v ∧ DurT false (v.extract 1 v.size) n ∧ n ≤ 9000000000
theorem duration (w : World) (g : Nat) (p : S75) (f : ByteArray → Option ByteArray) (n : Int) (h : PrAt w g p) (hD : Dv w f) (hV : valT f p = nmDUR) (hL : LastP p.f2 n) :
  Calls Tryz.prog 207 #[.pointer (some ⟨g, 0, none⟩)] w fun e w' => e = .returned (.tuple #[.int .i64 (n * 1000000000), .nilIface]) ∧ Below w.heap.size w w' := by
 obtain ⟨⟨h0, hP⟩, hs, hu, hT, hn⟩ := hL
 go_enter Tryz.func207, Tryz.ntmps207
 go_wp2_with fail
 refine (expectDur w g p f h hD hV).mono ?_
 rintro e w1 ⟨rfl, hb⟩
 obtain ⟨M, lo, hi, c0, c1, c2, -, -⟩ := h.below hb
 have HB := hI hb
 clear hb c0 c1 h hD hV
 go_wp2_with fail
 refine (upper_ical p.f2 w1 (by omega)).mono ?_
 rw [hu]
 rintro e w2 ⟨rfl, hb⟩
 have HB := hI (HB.out.trans (hb.mono HB.out.size))
 clear hb c2 hu
 go_wp2_with fail
 refine (parseDur w _ w2.heap.size p.f2 n h0 hP (new_blk w2 _) (HB.out.alloc HB.out.size _) HB.out.size hs hT hn).mono ?_
 rintro e w3 ⟨rfl, hb⟩
 have HB := hI hb
 clear hb hT hP
 go_wp2
 exact bodyPost_ret (v := .tuple #[.int .i64 (n * 1000000000), .nilIface]) (by simp [results, Tryz.results207, go_sem]) rfl ⟨rfl, HB.out⟩
end Go.Proofs.YtcllaplddebilaaGreatDoor
end
section
namespace Go.Proofs.YtcllaplddebilaaGreatDoor
open Go.RowKit Go.Sort
attribute [local go_sem] cell?_grow frozen?_grow cell?_redrawn frozen?_redrawn size_redrawn size_grow ba_get ba_extract
attribute [local simp] size_redrawn
open Go.Lib Go.Proofs.YtcllaplddebilaaGreatDoorW.PrintWords Go.Proofs.YtcllaplddebilaaGreatDoorW.PrintLast Go.Proofs.YtcllaplddebilaaGreatDoorW.PrintMore
def tv (a : Int) (l : ByteArray) (o : Int) : Value := .agg #[.int .i64 a, .int .i32 0, .string l, .int .i64 o]
theorem location_ (a o : Int) (l : ByteArray) (w : World) : Calls Tryz.prog 132 #[tv a l o] w fun e w' => e = .returned (.string { data := #[85, 84, 67] }) ∧ Below w.heap.size w w' := by
 unfold tv
 go_enter Tryz.func132, Tryz.ntmps132
 go_wp2
 go_ret
 exact ⟨rfl, by (repeat (first | exact Below.refl _ _ | (refine below_drewN ?_ _) | (refine Below.trans ?_ ((below_regrown _ _ _).mono (by simp <;> omega))) | (refine Below.drew ?_) | (refine Below.alloc ?_ (by simp <;> omega) _) | (refine Below.setCell ?_ (by simp <;> omega) _) | assumption))⟩
theorem isZero_ (a o : Int) (l : ByteArray) (w : World) : Calls Tryz.prog 82 #[tv a l o] w fun e w' => e = .returned (.bool (decide (a = 0))) ∧ Below w.heap.size w w' := by
 unfold tv
 by_cases h : a = 0
 ·have hd : decide (a = 0) = true := decide_eq_true h
  have hb : (a == 0) = true := beq_iff_eq.2 h
  go_enter Tryz.func82, Tryz.ntmps82
  go_wp2
  go_ret
  exact ⟨by rw [hd] <;> rfl, by (repeat (first | exact Below.refl _ _ | (refine below_drewN ?_ _) | (refine Below.trans ?_ ((below_regrown _ _ _).mono (by simp <;> omega))) | (refine Below.drew ?_) | (refine Below.alloc ?_ (by simp <;> omega) _) | (refine Below.setCell ?_ (by simp <;> omega) _) | assumption))⟩
 ·have hd : decide (a = 0) = false := decide_eq_false h
  have hb : (a == 0) = false := beq_eq_false_iff_ne.2 h
  go_enter Tryz.func82, Tryz.ntmps82
  go_wp2
  go_ret
  exact ⟨by rw [hd] <;> rfl, by (repeat (first | exact Below.refl _ _ | (refine below_drewN ?_ _) | (refine Below.trans ?_ ((below_regrown _ _ _).mono (by simp <;> omega))) | (refine Below.drew ?_) | (refine Below.alloc ?_ (by simp <;> omega) _) | (refine Below.setCell ?_ (by simp <;> omega) _) | assumption))⟩
theorem sec_ (a o : Int) (l : ByteArray) (w : World) : Calls Tryz.prog 98 #[tv a l o] w fun e w' => e = .returned (.int .i64 a) ∧ Below w.heap.size w w' := by
 unfold tv
 go_enter Tryz.func98, Tryz.ntmps98
 go_wp2
 go_ret
 exact ⟨rfl, by (repeat (first | exact Below.refl _ _ | (refine below_drewN ?_ _) | (refine Below.trans ?_ ((below_regrown _ _ _).mono (by simp <;> omega))) | (refine Below.drew ?_) | (refine Below.alloc ?_ (by simp <;> omega) _) | (refine Below.setCell ?_ (by simp <;> omega) _) | assumption))⟩
theorem nsec_ (a o : Int) (l : ByteArray) (w : World) : Calls Tryz.prog 135 #[tv a l o] w fun e w' => e = .returned (.int .i32 0) ∧ Below w.heap.size w w' := by
 unfold tv
 go_enter Tryz.func135, Tryz.ntmps135
 go_wp2
 go_ret
 exact ⟨rfl, by (repeat (first | exact Below.refl _ _ | (refine below_drewN ?_ _) | (refine Below.trans ?_ ((below_regrown _ _ _).mono (by simp <;> omega))) | (refine Below.drew ?_) | (refine Below.alloc ?_ (by simp <;> omega) _) | (refine Below.setCell ?_ (by simp <;> omega) _) | assumption))⟩
theorem after_ (a o b o2 : Int) (l l2 : ByteArray) (w : World) : Calls Tryz.prog 89 #[tv a l o, tv b l2 o2] w fun e w' => e = .returned (.bool (decide (b < a))) ∧ Below w.heap.size w w' := by
 have hx : b < a ∨ a = b ∨ a < b := by omega
 have HT1 : tv a l o = .agg #[.int .i64 a, .int .i32 0, .string l, .int .i64 o] := rfl
 have HT2 : tv b l2 o2 = .agg #[.int .i64 b, .int .i32 0, .string l2, .int .i64 o2] := rfl
 rw [HT1, HT2]
 go_enter Tryz.func89, Tryz.ntmps89
 go_wp2_with fail
 refine (sec_ a o l _).mono ?_
 rintro e w1 ⟨rfl, hb⟩
 have H1 := hI (below_blk hb (old_blk (new_blk w _) _))
 have H2 := hI (below_blk hb (new_blk (w.alloc _) _))
 have HB := hI ((((Below.refl _ _).alloc (Nat.le_refl _) _).alloc (by simp) _).trans (hb.mono (by simp; omega)) : Below w.heap.size w w1)
 have hs := hb.size
 clear hb
 have c0 : w1.cell? ⟨(w.alloc (.cells #[.int .i64 a, .int .i32 0, .string l, .int .i64 o] 70)).heap.size, 0, none⟩ = some (.int .i64 b) := (cell_blk H2.out 0).trans rfl
 have c1 : w1.cell? ⟨(w.alloc (.cells #[.int .i64 a, .int .i32 0, .string l, .int .i64 o] 70)).heap.size, 1, none⟩ = some (.int .i32 0) := (cell_blk H2.out 1).trans rfl
 have c2 : w1.cell? ⟨(w.alloc (.cells #[.int .i64 a, .int .i32 0, .string l, .int .i64 o] 70)).heap.size, 2, none⟩ = some (.string l2) := (cell_blk H2.out 2).trans rfl
 have c3 : w1.cell? ⟨(w.alloc (.cells #[.int .i64 a, .int .i32 0, .string l, .int .i64 o] 70)).heap.size, 3, none⟩ = some (.int .i64 o2) := (cell_blk H2.out 3).trans rfl
 simp only [World.size_alloc] at c0 c1 c2 c3
 go_wp2_with fail
 refine (sec_ b o2 l2 _).mono ?_
 rintro e w2 ⟨rfl, hb⟩
 have H1 := hI (below_blk hb H1.out)
 have H2 := hI (below_blk hb H2.out)
 have HB := hI (HB.out.trans (hb.mono HB.out.size))
 clear hb c0 c1 c2 c3
 have b0 : w2.cell? ⟨w.heap.size, 0, none⟩ = some (.int .i64 a) := (cell_blk H1.out 0).trans rfl
 have b1 : w2.cell? ⟨w.heap.size, 1, none⟩ = some (.int .i32 0) := (cell_blk H1.out 1).trans rfl
 have b2 : w2.cell? ⟨w.heap.size, 2, none⟩ = some (.string l) := (cell_blk H1.out 2).trans rfl
 have b3 : w2.cell? ⟨w.heap.size, 3, none⟩ = some (.int .i64 o) := (cell_blk H1.out 3).trans rfl
 have c0 : w2.cell? ⟨w.heap.size + 1, 0, none⟩ = some (.int .i64 b) := by simpa using (cell_blk H2.out 0)
 have c1 : w2.cell? ⟨w.heap.size + 1, 1, none⟩ = some (.int .i32 0) := by simpa using (cell_blk H2.out 1)
 have c2 : w2.cell? ⟨w.heap.size + 1, 2, none⟩ = some (.string l2) := by simpa using (cell_blk H2.out 2)
 have c3 : w2.cell? ⟨w.heap.size + 1, 3, none⟩ = some (.int .i64 o2) := by simpa using (cell_blk H2.out 3)
 have gb0 : ∀ d os, (grow (redrawn w2 d) os).cell? ⟨w.heap.size, 0, none⟩ = _ := fun d os => pw_cell_below (below_regrown _ _ _) b0
 have gb1 : ∀ d os, (grow (redrawn w2 d) os).cell? ⟨w.heap.size, 1, none⟩ = _ := fun d os => pw_cell_below (below_regrown _ _ _) b1
 have gb2 : ∀ d os, (grow (redrawn w2 d) os).cell? ⟨w.heap.size, 2, none⟩ = _ := fun d os => pw_cell_below (below_regrown _ _ _) b2
 have gb3 : ∀ d os, (grow (redrawn w2 d) os).cell? ⟨w.heap.size, 3, none⟩ = _ := fun d os => pw_cell_below (below_regrown _ _ _) b3
 have gc0 : ∀ d os, (grow (redrawn w2 d) os).cell? ⟨w.heap.size + 1, 0, none⟩ = _ := fun d os => pw_cell_below (below_regrown _ _ _) c0
 have gc1 : ∀ d os, (grow (redrawn w2 d) os).cell? ⟨w.heap.size + 1, 1, none⟩ = _ := fun d os => pw_cell_below (below_regrown _ _ _) c1
 have gc2 : ∀ d os, (grow (redrawn w2 d) os).cell? ⟨w.heap.size + 1, 2, none⟩ = _ := fun d os => pw_cell_below (below_regrown _ _ _) c2
 have gc3 : ∀ d os, (grow (redrawn w2 d) os).cell? ⟨w.heap.size + 1, 3, none⟩ = _ := fun d os => pw_cell_below (below_regrown _ _ _) c3
 go_wp2
 rcases hx with hx | hx | hx
 ·have d1 : decide (b < a) = true := decide_eq_true hx
  have hV : Hid (decide (b < a) = true) := hI d1
  refine wp_region_quiet_below (by kernel_rfl) (by kernel_rfl) ?_; (repeat (first | go_big_quiet_step ((go_at_call 135; exact Calls.regrown_of (nsec_ _ _ _ _))) | quiet_step ((go_at_call 135; exact Calls.regrown_of (nsec_ _ _ _ _))))); refine wpQuiet_nil ?_; intro wq hw'; obtain ⟨⟨dq, osq⟩, hw''⟩ := hw'; have hbq := below_quiet hw''; clear hw''
  go_wp2
  go_ret
  exact ⟨by rw [hV.out]; rfl, HB.out.trans (hbq.mono HB.out.size)⟩
 ·have d1 : decide (b < a) = false := decide_eq_false (by omega)
  have d2 : (a == b) = true := beq_iff_eq.2 hx
  have hV : Hid (decide (b < a) = false) := hI d1
  refine wp_region_quiet_below (by kernel_rfl) (by kernel_rfl) ?_; (repeat (first | go_big_quiet_step ((go_at_call 135; exact Calls.regrown_of (nsec_ _ _ _ _))) | quiet_step ((go_at_call 135; exact Calls.regrown_of (nsec_ _ _ _ _))))); refine wpQuiet_nil ?_; intro wq hw'; obtain ⟨⟨dq, osq⟩, hw''⟩ := hw'; have hbq := below_quiet hw''; clear hw''
  go_wp2
  go_ret
  exact ⟨by rw [hV.out]; rfl, HB.out.trans (hbq.mono HB.out.size)⟩
 ·have d1 : decide (b < a) = false := decide_eq_false (by omega)
  have d2 : (a == b) = false := beq_eq_false_iff_ne.2 (by omega)
  have hV : Hid (decide (b < a) = false) := hI d1
  refine wp_region_quiet_below (by kernel_rfl) (by kernel_rfl) ?_; (repeat (first | go_big_quiet_step ((go_at_call 135; exact Calls.regrown_of (nsec_ _ _ _ _))) | quiet_step ((go_at_call 135; exact Calls.regrown_of (nsec_ _ _ _ _))))); refine wpQuiet_nil ?_; intro wq hw'; obtain ⟨⟨dq, osq⟩, hw''⟩ := hw'; have hbq := below_quiet hw''; clear hw''
  go_wp2
  go_ret
  exact ⟨by rw [hV.out]; rfl, HB.out.trans (hbq.mono HB.out.size)⟩
theorem before_ (a o b o2 : Int) (l l2 : ByteArray) (w : World) : Calls Tryz.prog 90 #[tv a l o, tv b l2 o2] w fun e w' => e = .returned (.bool (decide (a < b))) ∧ Below w.heap.size w w' := by
 have hx : a < b ∨ a = b ∨ b < a := by omega
 have HT1 : tv a l o = .agg #[.int .i64 a, .int .i32 0, .string l, .int .i64 o] := rfl
 have HT2 : tv b l2 o2 = .agg #[.int .i64 b, .int .i32 0, .string l2, .int .i64 o2] := rfl
 rw [HT1, HT2]
 go_enter Tryz.func90, Tryz.ntmps90
 go_wp2_with fail
 refine (sec_ a o l _).mono ?_
 rintro e w1 ⟨rfl, hb⟩
 have H1 := hI (below_blk hb (old_blk (new_blk w _) _))
 have H2 := hI (below_blk hb (new_blk (w.alloc _) _))
 have HB := hI ((((Below.refl _ _).alloc (Nat.le_refl _) _).alloc (by simp) _).trans (hb.mono (by simp; omega)) : Below w.heap.size w w1)
 have hs := hb.size
 clear hb
 have c0 : w1.cell? ⟨(w.alloc (.cells #[.int .i64 a, .int .i32 0, .string l, .int .i64 o] 70)).heap.size, 0, none⟩ = some (.int .i64 b) := (cell_blk H2.out 0).trans rfl
 have c1 : w1.cell? ⟨(w.alloc (.cells #[.int .i64 a, .int .i32 0, .string l, .int .i64 o] 70)).heap.size, 1, none⟩ = some (.int .i32 0) := (cell_blk H2.out 1).trans rfl
 have c2 : w1.cell? ⟨(w.alloc (.cells #[.int .i64 a, .int .i32 0, .string l, .int .i64 o] 70)).heap.size, 2, none⟩ = some (.string l2) := (cell_blk H2.out 2).trans rfl
 have c3 : w1.cell? ⟨(w.alloc (.cells #[.int .i64 a, .int .i32 0, .string l, .int .i64 o] 70)).heap.size, 3, none⟩ = some (.int .i64 o2) := (cell_blk H2.out 3).trans rfl
 simp only [World.size_alloc] at c0 c1 c2 c3
 go_wp2_with fail
 refine (sec_ b o2 l2 _).mono ?_
 rintro e w2 ⟨rfl, hb⟩
 have H1 := hI (below_blk hb H1.out)
 have H2 := hI (below_blk hb H2.out)
 have HB := hI (HB.out.trans (hb.mono HB.out.size))
 clear hb c0 c1 c2 c3
 have b0 : w2.cell? ⟨w.heap.size, 0, none⟩ = some (.int .i64 a) := (cell_blk H1.out 0).trans rfl
 have b1 : w2.cell? ⟨w.heap.size, 1, none⟩ = some (.int .i32 0) := (cell_blk H1.out 1).trans rfl
 have b2 : w2.cell? ⟨w.heap.size, 2, none⟩ = some (.string l) := (cell_blk H1.out 2).trans rfl
 have b3 : w2.cell? ⟨w.heap.size, 3, none⟩ = some (.int .i64 o) := (cell_blk H1.out 3).trans rfl
 have c0 : w2.cell? ⟨w.heap.size + 1, 0, none⟩ = some (.int .i64 b) := by simpa using (cell_blk H2.out 0)
 have c1 : w2.cell? ⟨w.heap.size + 1, 1, none⟩ = some (.int .i32 0) := by simpa using (cell_blk H2.out 1)
 have c2 : w2.cell? ⟨w.heap.size + 1, 2, none⟩ = some (.string l2) := by simpa using (cell_blk H2.out 2)
 have c3 : w2.cell? ⟨w.heap.size + 1, 3, none⟩ = some (.int .i64 o2) := by simpa using (cell_blk H2.out 3)
 have gb0 : ∀ d os, (grow (redrawn w2 d) os).cell? ⟨w.heap.size, 0, none⟩ = _ := fun d os => pw_cell_below (below_regrown _ _ _) b0
 have gb1 : ∀ d os, (grow (redrawn w2 d) os).cell? ⟨w.heap.size, 1, none⟩ = _ := fun d os => pw_cell_below (below_regrown _ _ _) b1
 have gb2 : ∀ d os, (grow (redrawn w2 d) os).cell? ⟨w.heap.size, 2, none⟩ = _ := fun d os => pw_cell_below (below_regrown _ _ _) b2
 have gb3 : ∀ d os, (grow (redrawn w2 d) os).cell? ⟨w.heap.size, 3, none⟩ = _ := fun d os => pw_cell_below (below_regrown _ _ _) b3
 have gc0 : ∀ d os, (grow (redrawn w2 d) os).cell? ⟨w.heap.size + 1, 0, none⟩ = _ := fun d os => pw_cell_below (below_regrown _ _ _) c0
 have gc1 : ∀ d os, (grow (redrawn w2 d) os).cell? ⟨w.heap.size + 1, 1, none⟩ = _ := fun d os => pw_cell_below (below_regrown _ _ _) c1
 have gc2 : ∀ d os, (grow (redrawn w2 d) os).cell? ⟨w.heap.size + 1, 2, none⟩ = _ := fun d os => pw_cell_below (below_regrown _ _ _) c2
 have gc3 : ∀ d os, (grow (redrawn w2 d) os).cell? ⟨w.heap.size + 1, 3, none⟩ = _ := fun d os => pw_cell_below (below_regrown _ _ _) c3
 go_wp2
 rcases hx with hx | hx | hx
 ·have d1 : decide (a < b) = true := decide_eq_true hx
  have hV : Hid (decide (a < b) = true) := hI d1
  refine wp_region_quiet_below (by kernel_rfl) (by kernel_rfl) ?_; (repeat (first | go_big_quiet_step ((go_at_call 135; exact Calls.regrown_of (nsec_ _ _ _ _))) | quiet_step ((go_at_call 135; exact Calls.regrown_of (nsec_ _ _ _ _))))); refine wpQuiet_nil ?_; intro wq hw'; obtain ⟨⟨dq, osq⟩, hw''⟩ := hw'; have hbq := below_quiet hw''; clear hw''
  go_wp2
  go_ret
  exact ⟨by rw [hV.out]; rfl, HB.out.trans (hbq.mono HB.out.size)⟩
 ·have d1 : decide (a < b) = false := decide_eq_false (by omega)
  have d2 : (a == b) = true := beq_iff_eq.2 hx
  have hV : Hid (decide (a < b) = false) := hI d1
  refine wp_region_quiet_below (by kernel_rfl) (by kernel_rfl) ?_; (repeat (first | go_big_quiet_step ((go_at_call 135; exact Calls.regrown_of (nsec_ _ _ _ _))) | quiet_step ((go_at_call 135; exact Calls.regrown_of (nsec_ _ _ _ _))))); refine wpQuiet_nil ?_; intro wq hw'; obtain ⟨⟨dq, osq⟩, hw''⟩ := hw'; have hbq := below_quiet hw''; clear hw''
  go_wp2
  go_ret
  exact ⟨by rw [hV.out]; rfl, HB.out.trans (hbq.mono HB.out.size)⟩
 ·have d1 : decide (a < b) = false := decide_eq_false (by omega)
  have d2 : (a == b) = false := beq_eq_false_iff_ne.2 (by omega)
  have hV : Hid (decide (a < b) = false) := hI d1
  refine wp_region_quiet_below (by kernel_rfl) (by kernel_rfl) ?_; (repeat (first | go_big_quiet_step ((go_at_call 135; exact Calls.regrown_of (nsec_ _ _ _ _))) | quiet_step ((go_at_call 135; exact Calls.regrown_of (nsec_ _ _ _ _))))); refine wpQuiet_nil ?_; intro wq hw'; obtain ⟨⟨dq, osq⟩, hw''⟩ := hw'; have hbq := below_quiet hw''; clear hw''
  go_wp2
  go_ret
  exact ⟨by rw [hV.out]; rfl, HB.out.trans (hbq.mono HB.out.size)⟩
theorem add_ (a o k : Int) (l : ByteArray) (w : World) (h0 : 0 ≤ k) (h1 : k ≤ 9000000000) (a0 : -1000000000000000 ≤ a) (a1 : a ≤ 1000000000000000) :
  Calls Tryz.prog 123 #[tv a l o, .int .i64 (k * 1000000000)] w fun e w' => e = .returned (tv (a + k) l o) ∧ Below w.heap.size w w' := by
 have HT1 : tv a l o = .agg #[.int .i64 a, .int .i32 0, .string l, .int .i64 o] := rfl
 have HT2 : tv (a + k) l o = .agg #[.int .i64 (a + k), .int .i32 0, .string l, .int .i64 o] := rfl
 rw [HT1, HT2]
 have q1 : Int.tdiv (k * 1000000000) 1000000000 = k := Int.mul_tdiv_cancel _ (by decide)
 have q2 : Int.tmod (k * 1000000000) 1000000000 = 0 := Int.mul_tmod_left _ _
 go_enter Tryz.func123, Tryz.ntmps123
 go_wp2_with fail
 refine (nsec_ a o l _).mono ?_
 rintro e w1 ⟨rfl, hb⟩
 have H1 := hI (below_blk hb (old_blk (new_blk w _) _))
 have H2 := hI (below_blk hb (new_blk (w.alloc _) _))
 have HB := hI ((((Below.refl _ _).alloc (Nat.le_refl _) _).alloc (by simp) _).trans (hb.mono (by simp; omega)) : Below w.heap.size w w1)
 have hs := hb.size
 clear hb
 have b0 : w1.cell? ⟨w.heap.size, 0, none⟩ = some (.int .i64 a) := (cell_blk H1.out 0).trans rfl
 have b1 : w1.cell? ⟨w.heap.size, 1, none⟩ = some (.int .i32 0) := (cell_blk H1.out 1).trans rfl
 have b2 : w1.cell? ⟨w.heap.size, 2, none⟩ = some (.string l) := (cell_blk H1.out 2).trans rfl
 have b3 : w1.cell? ⟨w.heap.size, 3, none⟩ = some (.int .i64 o) := (cell_blk H1.out 3).trans rfl
 have f0 : ∀ o, w1.frozen? ⟨w.heap.size, o, none⟩ = false := fun o => frozen_blk H1.out o (by omega)
 have c0 : w1.cell? ⟨w.heap.size + 1, 0, none⟩ = some (.int .i64 0) := by simpa using (cell_blk H2.out 0)
 have c1 : w1.cell? ⟨w.heap.size + 1, 1, none⟩ = some (.int .i32 0) := by simpa using (cell_blk H2.out 1)
 have c2 : w1.cell? ⟨w.heap.size + 1, 2, none⟩ = some (.string { data := #[] }) := by simpa using (cell_blk H2.out 2)
 have c3 : w1.cell? ⟨w.heap.size + 1, 3, none⟩ = some (.int .i64 0) := by simpa using (cell_blk H2.out 3)
 have f1 : ∀ o, w1.frozen? ⟨w.heap.size + 1, o, none⟩ = false := fun o => by simpa using frozen_blk H2.out o (by omega)
 have H2b := hI H2.out
 clear H1 H2
 have he : (decide (a < a + k) == decide (0 < k)) = true := by
  by_cases hk : 0 < k
  ·rw [decide_eq_true hk, decide_eq_true (show a < a + k by omega)]; rfl
  ·rw [decide_eq_false hk, decide_eq_false (show ¬ a < a + k by omega)]; rfl
 go_wp2
 refine bodyPost_ret (v := .agg #[.int .i64 (a + k), .int .i32 0, .string l, .int .i64 o]) ?_ rfl ⟨rfl, ?_⟩
 ·simp [results, Tryz.results123, go_sem, c0, c1, c2, c3, f1]
 ·exact (((((HB.out.setCell (by simp) _).setCell (by simp) _).setCell (by simp) _).setCell (by simp) _).setCell (by simp) _).setCell (by simp) _
end Go.Proofs.YtcllaplddebilaaGreatDoor
end
section
namespace Go.Proofs.YtcllaplddebilaaGreatDoor
open Go.RowKit Go.Sort
attribute [local go_sem] cell?_grow frozen?_grow cell?_redrawn frozen?_redrawn size_redrawn size_grow ba_get ba_extract
attribute [local simp] size_redrawn
open Go.Lib Go.Proofs.YtcllaplddebilaaGreatDoorW.PrintWords Go.Proofs.YtcllaplddebilaaGreatDoorW.PrintLast Go.Proofs.YtcllaplddebilaaGreatDoorW.PrintMore PFnKMatch
structure EvAt (w : World) (eb C P0 lo hi : Nat) (ps : List S75) (gs : List GP) : Prop where
 e : w.cell? ⟨eb, 0, none⟩ = some (.pointer (some ⟨C, 0, none⟩))
 k : w.cell? ⟨C, 1, none⟩ = some (.map (some P0))
 q : QIn w lo hi P0 ps gs
 hh : hi ≤ w.heap.size
theorem EvAt.below {w w1 : World} {eb C P0 lo hi : Nat} {ps : List S75} {gs : List GP} (h : EvAt w eb C P0 lo hi ps gs) (hb : Below w.heap.size w w1) : EvAt w1 eb C P0 lo hi ps gs :=
 ⟨pw_cell_below hb h.e, pw_cell_below hb h.k, h.q.later h.hh hb, Nat.le_trans h.hh hb.size⟩
theorem dat_bd {v : ByteArray} {s : Int} (h : DatB v s) : -100000000000 ≤ s ∧ s ≤ 400000000000 := by
 obtain ⟨a, b, c, d, e, f, g, i, y, m, dd, -, ⟨_, _, _, _, ⟨v1, v2, v3, v4, v5⟩, h9⟩, rfl⟩ := h
 have := mlen_bd y m
 have := dnum_bd9 y m dd v1 h9 v2 v3 v4 (by omega)
 omega
theorem mom_bd {v : ByteArray} {s : Int} (h : MomB v s) : -100000000000 ≤ s ∧ s ≤ 400000000000 := by
 obtain ⟨a, b, c, d, e, f, g, i, h0, h1, i0, i1, s0, s1, y, m, dd, hh, mi, sc, -, ⟨_, _, _, _, ⟨v1, v2, v3, v4, v5⟩, h9⟩, ⟨_, _, _, _, z1, z2, z3, z4, z5, z6⟩, rfl⟩ := h
 have := mlen_bd y m
 have := dnum_bd9 y m dd v1 h9 v2 v3 v4 (by omega)
 omega
theorem MomP.bd {f : ByteArray → Option ByteArray} {p : S75} {s : Int} (h : MomP f p s) : -100000000000 ≤ s ∧ s ≤ 400000000000 := by
 rcases h with ⟨_, h⟩ | ⟨_, h⟩
 ·exact mom_bd h
 ·exact dat_bd h
theorem LastP.nonneg {v : ByteArray} {n : Int} (h : LastP v n) : 0 ≤ n ∧ n ≤ 9000000000 := ⟨h.2.2.2.1.nonneg, h.2.2.2.2⟩
inductive EndO (f : ByteArray → Option ByteArray) (ps : List S75) : Option Int → Prop
 | fin (p : S75) (s : Int) : firstP ps nmEND = some p → MomP f p s → EndO f ps (some s)
 | non : firstP ps nmEND = none → firstP ps nmSTART = none → EndO f ps none
 | dur (p q : S75) (s n : Int) : firstP ps nmEND = none → firstP ps nmSTART = some p → MomP f p s → firstP ps nmDUR = some q → valT f q = nmDUR → LastP q.f2 n → EndO f ps (some (s + n))
 | plain (p : S75) (s n : Int) : firstP ps nmEND = none → firstP ps nmSTART = some p → firstP ps nmDUR = none → (valT f p = nmDT ∧ MomB p.f2 s ∧ n = 0) ∨ (valT f p = nmDATE ∧ DatB p.f2 s ∧ n = 86400) → EndO f ps (some (s + n))
theorem evEnd_fin (w : World) (eb C P0 lo hi : Nat) (ps : List S75) (gs : List GP) (f : ByteArray → Option ByteArray) (loc : ByteArray) (p : S75) (s : Int) (h : EvAt w eb C P0 lo hi ps gs) (hD : Dv w f) (hG : Gl w) (h1 : firstP ps nmEND = some p) (h2 : MomP f p s) :
  Calls Tryz.prog 151 #[.pointer (some ⟨eb, 0, none⟩), .string loc] w fun e w' => e = .returned (.tuple #[.agg #[.int .i64 (s + 62135596800), .int .i32 0, .string { data := #[85, 84, 67] }, .int .i64 0], .nilIface]) ∧ Below w.heap.size w w' := by
 have hG0 : ∀ o, Gl (w.alloc o) := fun o => hG.below ((Below.refl _ _).alloc (Nat.le_refl _) o) hG.size
 have hD0 : ∀ o, Dv (w.alloc o) f := fun o => hD.below (below_alloc (Below.refl _ _) o)
 have hE0 : ∀ o, EvAt (w.alloc o) eb C P0 lo hi ps gs := fun o => h.below (below_alloc (Below.refl _ _) o)
 have e0 : ∀ o, (w.alloc o).cell? ⟨eb, 0, none⟩ = _ := fun o => (hE0 o).e
 have k0 : ∀ o, (w.alloc o).cell? ⟨C, 1, none⟩ = _ := fun o => (hE0 o).k
 clear h hD
 go_enter Tryz.func151, Tryz.ntmps151
 go_wp2_with fail
 refine (propsGet _ lo hi P0 ps gs nmEND (hE0 _).q (hE0 _).hh up_END (by decide)).mono ?_
 rw [h1]
 intro e w1 hpost
 rcases hpost with ⟨hc, -⟩ | ⟨p', g, hpe, rfl, hP, hb⟩
 ·cases hc
 injection hpe with hpe
 subst hpe
 have hz := below_blk hb (new_blk w _)
 have hG1 := (hG0 _).below hb (hG0 _).size
 have hD1 := (hD0 _).below hb
 have HB := hI (((Below.refl _ _).alloc (Nat.le_refl _) _).trans (hb.mono (by simp)) : Below w.heap.size w w1)
 have HZ := hI hz
 clear hb hz e0 k0 hE0 hD0 hG0
 go_wp2_with fail
 refine (dateTime w1 g p f loc s hP hD1 hG1 h2).mono ?_
 rintro e wk ⟨rfl, hb⟩
 have hz := below_blk hb HZ.out
 have hb0 := HB.out.trans (hb.mono HB.out.size)
 have c0 : wk.cell? ⟨w.heap.size, 0, none⟩ = _ := (cell_blk hz 0).trans rfl
 have c1 : wk.cell? ⟨w.heap.size, 1, none⟩ = _ := (cell_blk hz 1).trans rfl
 have c2 : wk.cell? ⟨w.heap.size, 2, none⟩ = _ := (cell_blk hz 2).trans rfl
 have c3 : wk.cell? ⟨w.heap.size, 3, none⟩ = _ := (cell_blk hz 3).trans rfl
 have f0 : ∀ o, wk.frozen? ⟨w.heap.size, o, none⟩ = false := fun o => frozen_blk hz o (by omega)
 clear hz HZ hb HB hP hG1 hD1 h2
 have HB := hI hb0
 clear hb0
 go_wp2
 refine bodyPost_ret (v := .tuple #[.agg #[.int .i64 (s + 62135596800), .int .i32 0, .string { data := #[85, 84, 67] }, .int .i64 0], .nilIface]) ?_ rfl ⟨rfl, ?_⟩
 ·simp [results, Tryz.results151, go_sem, c0, c1, c2, c3, f0]
 ·exact (((HB.out.setCell (by simp) _).setCell (by simp) _).setCell (by simp) _).setCell (by simp) _
theorem evEnd_non (w : World) (eb C P0 lo hi : Nat) (ps : List S75) (gs : List GP) (loc : ByteArray) (h : EvAt w eb C P0 lo hi ps gs) (h1 : firstP ps nmEND = none) (h2 : firstP ps nmSTART = none) :
  Calls Tryz.prog 151 #[.pointer (some ⟨eb, 0, none⟩), .string loc] w fun e w' => e = .returned (.tuple #[.agg #[.int .i64 0, .int .i32 0, .string { data := #[] }, .int .i64 0], .nilIface]) ∧ Below w.heap.size w w' := by
 have hE0 : ∀ o, EvAt (w.alloc o) eb C P0 lo hi ps gs := fun o => h.below (below_alloc (Below.refl _ _) o)
 have e0 : ∀ o, (w.alloc o).cell? ⟨eb, 0, none⟩ = _ := fun o => (hE0 o).e
 have k0 : ∀ o, (w.alloc o).cell? ⟨C, 1, none⟩ = _ := fun o => (hE0 o).k
 clear h
 go_enter Tryz.func151, Tryz.ntmps151
 go_wp2_with fail
 refine (propsGet _ lo hi P0 ps gs nmEND (hE0 _).q (hE0 _).hh up_END (by decide)).mono ?_
 rw [h1]
 intro e w1 hpost
 rcases hpost with ⟨-, rfl, hb⟩ | ⟨p', g, hpe, rfl, hP, hb⟩
 rotate_left
 ·cases hpe
 have hE1 := (hE0 _).below hb
 have hz := below_blk hb (new_blk w _)
 have HB := hI (((Below.refl _ _).alloc (Nat.le_refl _) _).trans (hb.mono (by simp)) : Below w.heap.size w w1)
 have HZ := hI hz
 have e1 := hE1.e
 have k1 := hE1.k
 clear hb hz e0 k0 hE0
 go_wp2_with fail
 refine (propsGet _ lo hi P0 ps gs nmSTART hE1.q hE1.hh up_START (by decide)).mono ?_
 rw [h2]
 intro e w2 hpost
 rcases hpost with ⟨-, rfl, hb⟩ | ⟨p', g, hpe, rfl, hP, hb⟩
 rotate_left
 ·cases hpe
 have hz := below_blk hb HZ.out
 have hb0 := HB.out.trans (hb.mono HB.out.size)
 have c0 : w2.cell? ⟨w.heap.size, 0, none⟩ = _ := (cell_blk hz 0).trans rfl
 have c1 : w2.cell? ⟨w.heap.size, 1, none⟩ = _ := (cell_blk hz 1).trans rfl
 have c2 : w2.cell? ⟨w.heap.size, 2, none⟩ = _ := (cell_blk hz 2).trans rfl
 have c3 : w2.cell? ⟨w.heap.size, 3, none⟩ = _ := (cell_blk hz 3).trans rfl
 have f0 : ∀ o, w2.frozen? ⟨w.heap.size, o, none⟩ = false := fun o => frozen_blk hz o (by omega)
 clear hz HZ hb HB hE1 e1 k1
 have HB := hI hb0
 clear hb0
 go_wp2
 refine bodyPost_ret (v := .tuple #[.agg #[.int .i64 0, .int .i32 0, .string { data := #[] }, .int .i64 0], .nilIface]) ?_ rfl ⟨rfl, ?_⟩
 ·simp [results, Tryz.results151, go_sem, c0, c1, c2, c3, f0]
 ·exact (((HB.out.setCell (by simp) _).setCell (by simp) _).setCell (by simp) _).setCell (by simp) _
theorem evEnd_dur (w : World) (eb C P0 lo hi : Nat) (ps : List S75) (gs : List GP) (f : ByteArray → Option ByteArray) (loc : ByteArray) (p q : S75) (s n : Int) (h : EvAt w eb C P0 lo hi ps gs) (hD : Dv w f) (hG : Gl w) (h1 : firstP ps nmEND = none) (h2 : firstP ps nmSTART = some p) (h3 : MomP f p s) (h4 : firstP ps nmDUR = some q) (h5 : valT f q = nmDUR) (h6 : LastP q.f2 n) :
  Calls Tryz.prog 151 #[.pointer (some ⟨eb, 0, none⟩), .string loc] w fun e w' => e = .returned (.tuple #[.agg #[.int .i64 (s + n + 62135596800), .int .i32 0, .string { data := #[85, 84, 67] }, .int .i64 0], .nilIface]) ∧ Below w.heap.size w w' := by
 have hG0 : ∀ o, Gl (w.alloc o) := fun o => hG.below ((Below.refl _ _).alloc (Nat.le_refl _) o) hG.size
 have hD0 : ∀ o, Dv (w.alloc o) f := fun o => hD.below (below_alloc (Below.refl _ _) o)
 have hE0 : ∀ o, EvAt (w.alloc o) eb C P0 lo hi ps gs := fun o => h.below (below_alloc (Below.refl _ _) o)
 have e0 : ∀ o, (w.alloc o).cell? ⟨eb, 0, none⟩ = _ := fun o => (hE0 o).e
 have k0 : ∀ o, (w.alloc o).cell? ⟨C, 1, none⟩ = _ := fun o => (hE0 o).k
 have hadd : ∀ w, Calls Tryz.prog 123 #[.agg #[.int .i64 (s + 62135596800), .int .i32 0, .string { data := #[85, 84, 67] }, .int .i64 0], .int .i64 (n * 1000000000)] w fun e w' => e = .returned (.agg #[.int .i64 (s + n + 62135596800), .int .i32 0, .string { data := #[85, 84, 67] }, .int .i64 0]) ∧ Below w.heap.size w w' := fun w => by
  have hn := h6.nonneg
  have hs := h3.bd
  have h := add_ (s + 62135596800) 0 n { data := #[85, 84, 67] } w hn.1 hn.2 (by omega) (by omega)
  have e : s + 62135596800 + n = s + n + 62135596800 := by omega
  rw [e] at h
  exact h
 clear h hD
 go_enter Tryz.func151, Tryz.ntmps151
 go_wp2_with fail
 refine (propsGet _ lo hi P0 ps gs nmEND (hE0 _).q (hE0 _).hh up_END (by decide)).mono ?_
 rw [h1]
 intro e w1 hpost
 rcases hpost with ⟨-, rfl, hb⟩ | ⟨p', g, hpe, rfl, hP, hb⟩
 rotate_left
 ·cases hpe
 have hE1 := (hE0 _).below hb
 have HZ := hI (below_blk hb (new_blk w _))
 have hG1 := (hG0 _).below hb (hG0 _).size
 have hD1 := (hD0 _).below hb
 have HB := hI (((Below.refl _ _).alloc (Nat.le_refl _) _).trans (hb.mono (by simp)) : Below w.heap.size w w1)
 have e1 := hE1.e
 have k1 := hE1.k
 clear hb e0 k0 hE0 hG0 hD0
 go_wp2_with fail
 refine (propsGet _ lo hi P0 ps gs nmSTART hE1.q hE1.hh up_START (by decide)).mono ?_
 rw [h2]
 intro e w2 hpost
 rcases hpost with ⟨hc, -⟩ | ⟨p', g, hpe, rfl, hP, hb⟩
 ·cases hc
 injection hpe with hpe
 subst hpe
 have hE2 := hE1.below hb
 have HZ := hI (below_blk hb HZ.out)
 have hG2 := hG1.below hb hG1.size
 have hD2 := hD1.below hb
 have HB := hI (HB.out.trans (hb.mono HB.out.size))
 clear hb e1 k1 hE1 hG1 hD1
 go_wp2_with fail
 refine (dateTime w2 g p f loc s hP hD2 hG2 h3).mono ?_
 rintro e w3 ⟨rfl, hb⟩
 have hE3 := fun o => (hE2.below hb).below (below_alloc (Below.refl _ _) o)
 have HZ := hI (below_blk hb HZ.out)
 have hD3 := fun o => (hD2.below hb).below (below_alloc (Below.refl _ _) o)
 have HB := hI (HB.out.trans (hb.mono HB.out.size))
 have e3 := fun o => (hE3 o).e
 have k3 := fun o => (hE3 o).k
 clear hb hE2 hG2 hD2 hP
 go_wp2_with fail
 refine (propsGet _ lo hi P0 ps gs nmDUR (hE3 _).q (hE3 _).hh up_DUR (by decide)).mono ?_
 rw [h4]
 intro e w5 hpost
 rcases hpost with ⟨hc, -⟩ | ⟨p', g2, hpe, rfl, hP, hb⟩
 ·cases hc
 injection hpe with hpe
 subst hpe
 have HT := hI (below_blk hb (new_blk w3 _))
 have HZ := hI (below_blk hb (old_blk HZ.out _))
 have hD5 := (hD3 _).below hb
 have hw3 := HB.out.size
 have HB := hI ((HB.out.alloc HB.out.size _).trans (hb.mono (Nat.le_trans HB.out.size (by simp))))
 clear hb hE3 hD3 e3 k3
 go_wp2_with fail
 refine (duration w5 g2 q f n hP hD5 h5 h6).mono ?_
 rintro e w6 ⟨rfl, hb⟩
 have hT := below_blk hb HT.out
 have hZ := below_blk hb HZ.out
 have HB := hI (HB.out.trans (hb.mono HB.out.size))
 clear hb hP hD5 HT HZ
 have t0 : w6.cell? ⟨w3.heap.size, 0, none⟩ = some (.int .i64 (s + 62135596800)) := (cell_blk hT 0).trans rfl
 have t1 : w6.cell? ⟨w3.heap.size, 1, none⟩ = some (.int .i32 0) := (cell_blk hT 1).trans rfl
 have t2 : w6.cell? ⟨w3.heap.size, 2, none⟩ = some (.string { data := #[85, 84, 67] }) := (cell_blk hT 2).trans rfl
 have t3 : w6.cell? ⟨w3.heap.size, 3, none⟩ = some (.int .i64 0) := (cell_blk hT 3).trans rfl
 have HZ := hI hZ
 clear hT hZ
 go_wp2_with fail
 refine (hadd w6).mono ?_
 rintro e wk ⟨rfl, hb⟩
 have hz := below_blk hb HZ.out
 have hb0 := HB.out.trans (hb.mono HB.out.size)
 have c0 : wk.cell? ⟨w.heap.size, 0, none⟩ = _ := (cell_blk hz 0).trans rfl
 have c1 : wk.cell? ⟨w.heap.size, 1, none⟩ = _ := (cell_blk hz 1).trans rfl
 have c2 : wk.cell? ⟨w.heap.size, 2, none⟩ = _ := (cell_blk hz 2).trans rfl
 have c3 : wk.cell? ⟨w.heap.size, 3, none⟩ = _ := (cell_blk hz 3).trans rfl
 have f0 : ∀ o, wk.frozen? ⟨w.heap.size, o, none⟩ = false := fun o => frozen_blk hz o (by omega)
 clear hz HZ hb HB hadd t0 t1 t2 t3
 have HB := hI hb0
 clear hb0
 go_wp2
 refine bodyPost_ret (v := .tuple #[.agg #[.int .i64 (s + n + 62135596800), .int .i32 0, .string { data := #[85, 84, 67] }, .int .i64 0], .nilIface]) ?_ rfl ⟨rfl, ?_⟩
 ·simp [results, Tryz.results151, go_sem, c0, c1, c2, c3, f0]
 ·exact (((HB.out.setCell (by simp) _).setCell (by simp) _).setCell (by simp) _).setCell (by simp) _
theorem evEnd_plain (w : World) (eb C P0 lo hi : Nat) (ps : List S75) (gs : List GP) (f : ByteArray → Option ByteArray) (loc : ByteArray) (p : S75) (vt : ByteArray) (s n : Int) (h : EvAt w eb C P0 lo hi ps gs) (hD : Dv w f) (hG : Gl w) (h1 : firstP ps nmEND = none) (h2 : firstP ps nmSTART = some p) (h3 : MomP f p s) (h4 : firstP ps nmDUR = none) (h5 : valT f p = vt) (h6 : (vt = nmDT ∧ n = 0) ∨ (vt = nmDATE ∧ n = 86400)) :
  Calls Tryz.prog 151 #[.pointer (some ⟨eb, 0, none⟩), .string loc] w fun e w' => e = .returned (.tuple #[.agg #[.int .i64 (s + n + 62135596800), .int .i32 0, .string { data := #[85, 84, 67] }, .int .i64 0], .nilIface]) ∧ Below w.heap.size w w' := by
 have hG0 : ∀ o, Gl (w.alloc o) := fun o => hG.below ((Below.refl _ _).alloc (Nat.le_refl _) o) hG.size
 have hD0 : ∀ o, Dv (w.alloc o) f := fun o => hD.below (below_alloc (Below.refl _ _) o)
 have hE0 : ∀ o, EvAt (w.alloc o) eb C P0 lo hi ps gs := fun o => h.below (below_alloc (Below.refl _ _) o)
 have e0 : ∀ o, (w.alloc o).cell? ⟨eb, 0, none⟩ = _ := fun o => (hE0 o).e
 have k0 : ∀ o, (w.alloc o).cell? ⟨C, 1, none⟩ = _ := fun o => (hE0 o).k
 have hadd : ∀ w, Calls Tryz.prog 123 #[.agg #[.int .i64 (s + 62135596800), .int .i32 0, .string { data := #[85, 84, 67] }, .int .i64 0], .int .i64 (n * 1000000000)] w fun e w' => e = .returned (.agg #[.int .i64 (s + n + 62135596800), .int .i32 0, .string { data := #[85, 84, 67] }, .int .i64 0]) ∧ Below w.heap.size w w' := fun w => by
  have hn : 0 ≤ n ∧ n ≤ 9000000000 := by rcases h6 with ⟨_, rfl⟩ | ⟨_, rfl⟩ <;> omega
  have hs := h3.bd
  have h := add_ (s + 62135596800) 0 n { data := #[85, 84, 67] } w hn.1 hn.2 (by omega) (by omega)
  have e : s + 62135596800 + n = s + n + 62135596800 := by omega
  rw [e] at h
  exact h
 clear h hD
 go_enter Tryz.func151, Tryz.ntmps151
 go_wp2_with fail
 refine (propsGet _ lo hi P0 ps gs nmEND (hE0 _).q (hE0 _).hh up_END (by decide)).mono ?_
 rw [h1]
 intro e w1 hpost
 rcases hpost with ⟨-, rfl, hb⟩ | ⟨p', g, hpe, rfl, hP, hb⟩
 rotate_left
 ·cases hpe
 have hE1 := (hE0 _).below hb
 have HZ := hI (below_blk hb (new_blk w _))
 have hG1 := (hG0 _).below hb (hG0 _).size
 have hD1 := (hD0 _).below hb
 have HB := hI (((Below.refl _ _).alloc (Nat.le_refl _) _).trans (hb.mono (by simp)) : Below w.heap.size w w1)
 have e1 := hE1.e
 have k1 := hE1.k
 clear hb e0 k0 hE0 hG0 hD0
 go_wp2_with fail
 refine (propsGet _ lo hi P0 ps gs nmSTART hE1.q hE1.hh up_START (by decide)).mono ?_
 rw [h2]
 intro e w2 hpost
 rcases hpost with ⟨hc, -⟩ | ⟨p', g, hpe, rfl, hP, hb⟩
 ·cases hc
 injection hpe with hpe
 subst hpe
 have hE2 := hE1.below hb
 have HZ := hI (below_blk hb HZ.out)
 have hG2 := hG1.below hb hG1.size
 have hD2 := hD1.below hb
 have HB := hI (HB.out.trans (hb.mono HB.out.size))
 clear hb e1 k1 hE1 hG1 hD1
 go_wp2_with fail
 refine (dateTime w2 g p f loc s hP hD2 hG2 h3).mono ?_
 rintro e w3 ⟨rfl, hb⟩
 have hE3 := fun o => (hE2.below hb).below (below_alloc (Below.refl _ _) o)
 have HZ := hI (below_blk hb HZ.out)
 have hD3 := fun o => (hD2.below hb).below (below_alloc (Below.refl _ _) o)
 have HB := hI (HB.out.trans (hb.mono HB.out.size))
 have e3 := fun o => (hE3 o).e
 have k3 := fun o => (hE3 o).k
 have hP3 := fun o => (hP.below hb).below (below_alloc (Below.refl _ _) o)
 clear hb hE2 hG2 hD2 hP
 go_wp2_with fail
 refine (propsGet _ lo hi P0 ps gs nmDUR (hE3 _).q (hE3 _).hh up_DUR (by decide)).mono ?_
 rw [h4]
 intro e w5 hpost
 rcases hpost with ⟨-, rfl, hb⟩ | ⟨p', g2, hpe, rfl, hP, hb⟩
 rotate_left
 ·cases hpe
 have hP5 := (hP3 _).below hb
 have HT := hI (below_blk hb (new_blk w3 _))
 have HZ := hI (below_blk hb (old_blk HZ.out _))
 have hD5 := (hD3 _).below hb
 have hw3 := HB.out.size
 have HB := hI ((HB.out.alloc HB.out.size _).trans (hb.mono (Nat.le_trans HB.out.size (by simp))))
 clear hb hE3 hD3 e3 k3 hP3
 go_wp2_with fail
 refine (valueType w5 g p f hP5 hD5).mono ?_
 rw [h5]
 rintro e w6 ⟨rfl, hb⟩
 have hT := below_blk hb HT.out
 have hZ := below_blk hb HZ.out
 have HB := hI (HB.out.trans (hb.mono HB.out.size))
 clear hb hP5 hD5 HT HZ
 have t0 : w6.cell? ⟨w3.heap.size, 0, none⟩ = some (.int .i64 (s + 62135596800)) := (cell_blk hT 0).trans rfl
 have t1 : w6.cell? ⟨w3.heap.size, 1, none⟩ = some (.int .i32 0) := (cell_blk hT 1).trans rfl
 have t2 : w6.cell? ⟨w3.heap.size, 2, none⟩ = some (.string { data := #[85, 84, 67] }) := (cell_blk hT 2).trans rfl
 have t3 : w6.cell? ⟨w3.heap.size, 3, none⟩ = some (.int .i64 0) := (cell_blk hT 3).trans rfl
 have HZ := hI hZ
 clear hT hZ
 rcases h6 with ⟨rfl, rfl⟩ | ⟨rfl, rfl⟩
 ·unfold nmDT
  go_wp2_with fail
  refine (hadd w6).mono ?_
  rintro e wk ⟨rfl, hb⟩
  have hz := below_blk hb HZ.out
  have hb0 := HB.out.trans (hb.mono HB.out.size)
  have c0 : wk.cell? ⟨w.heap.size, 0, none⟩ = _ := (cell_blk hz 0).trans rfl
  have c1 : wk.cell? ⟨w.heap.size, 1, none⟩ = _ := (cell_blk hz 1).trans rfl
  have c2 : wk.cell? ⟨w.heap.size, 2, none⟩ = _ := (cell_blk hz 2).trans rfl
  have c3 : wk.cell? ⟨w.heap.size, 3, none⟩ = _ := (cell_blk hz 3).trans rfl
  have f0 : ∀ o, wk.frozen? ⟨w.heap.size, o, none⟩ = false := fun o => frozen_blk hz o (by omega)
  clear hz HZ hb HB hadd t0 t1 t2 t3
  have HB := hI hb0
  clear hb0
  go_wp2
  refine bodyPost_ret (v := .tuple #[.agg #[.int .i64 (s + 0 + 62135596800), .int .i32 0, .string { data := #[85, 84, 67] }, .int .i64 0], .nilIface]) ?_ rfl ⟨rfl, ?_⟩
  ·simp [results, Tryz.results151, go_sem, c0, c1, c2, c3, f0]
  ·exact (((HB.out.setCell (by simp) _).setCell (by simp) _).setCell (by simp) _).setCell (by simp) _
 ·unfold nmDATE
  go_wp2_with fail
  refine (hadd w6).mono ?_
  rintro e wk ⟨rfl, hb⟩
  have hz := below_blk hb HZ.out
  have hb0 := HB.out.trans (hb.mono HB.out.size)
  have c0 : wk.cell? ⟨w.heap.size, 0, none⟩ = _ := (cell_blk hz 0).trans rfl
  have c1 : wk.cell? ⟨w.heap.size, 1, none⟩ = _ := (cell_blk hz 1).trans rfl
  have c2 : wk.cell? ⟨w.heap.size, 2, none⟩ = _ := (cell_blk hz 2).trans rfl
  have c3 : wk.cell? ⟨w.heap.size, 3, none⟩ = _ := (cell_blk hz 3).trans rfl
  have f0 : ∀ o, wk.frozen? ⟨w.heap.size, o, none⟩ = false := fun o => frozen_blk hz o (by omega)
  clear hz HZ hb HB hadd t0 t1 t2 t3
  have HB := hI hb0
  clear hb0
  go_wp2
  refine bodyPost_ret (v := .tuple #[.agg #[.int .i64 (s + 86400 + 62135596800), .int .i32 0, .string { data := #[85, 84, 67] }, .int .i64 0], .nilIface]) ?_ rfl ⟨rfl, ?_⟩
  ·simp [results, Tryz.results151, go_sem, c0, c1, c2, c3, f0]
  ·exact (((HB.out.setCell (by simp) _).setCell (by simp) _).setCell (by simp) _).setCell (by simp) _
theorem evEnd (w : World) (eb C P0 lo hi : Nat) (ps : List S75) (gs : List GP) (f : ByteArray → Option ByteArray) (loc : ByteArray) (r : Option Int) (h : EvAt w eb C P0 lo hi ps gs) (hD : Dv w f) (hG : Gl w) (hE : EndO f ps r) :
  Calls Tryz.prog 151 #[.pointer (some ⟨eb, 0, none⟩), .string loc] w fun e w' => e = .returned (.tuple #[tmo r, .nilIface]) ∧ Below w.heap.size w w' := by
 cases hE with
 | fin p s a b => exact evEnd_fin w eb C P0 lo hi ps gs f loc p s h hD hG a b
 | non a b => exact evEnd_non w eb C P0 lo hi ps gs loc h a b
 | dur p q s n a b c d e g => exact evEnd_dur w eb C P0 lo hi ps gs f loc p q s n h hD hG a b c d e g
 | plain p s n a b c d =>
  rcases d with ⟨d1, d2, rfl⟩ | ⟨d1, d2, rfl⟩
  ·exact evEnd_plain w eb C P0 lo hi ps gs f loc p nmDT s 0 h hD hG a b (.inl ⟨d1, d2⟩) c d1 (.inl ⟨rfl, rfl⟩)
  ·exact evEnd_plain w eb C P0 lo hi ps gs f loc p nmDATE s 86400 h hD hG a b (.inr ⟨d1, d2⟩) c d1 (.inr ⟨rfl, rfl⟩)
theorem textMatch (t s : ByteArray) (neg : Bool) (w : World) (hm : s.size ≤ 140737488351232) (ht : t.size ≤ 140737488351232) :
  Calls Tryz.prog 154 #[.agg #[.string t, .bool neg], .string s] w fun e w' => e = .returned (.bool (holdB s t != neg)) ∧ Below w.heap.size w w' := by
 obtain ⟨hh, hH⟩ : ∃ x, holdB s t = x := ⟨_, rfl⟩
 have hc : ∀ w, Calls Tryz.prog 208 #[.string s, .string t] w fun e w' => e = .returned (.bool hh) ∧ Below w.heap.size w w' := fun w => by rw [← hH]; exact zzContains_is s t w hm ht
 rw [hH]
 clear hH
 go_enter Tryz.func154, Tryz.ntmps154
 go_wp2_with fail
 refine (hc _).mono ?_
 rintro e w1 ⟨rfl, hb⟩
 have hz := below_blk hb (new_blk w _)
 have c1 : w1.cell? ⟨w.heap.size, 1, none⟩ = some (.bool neg) := (cell_blk hz 1).trans rfl
 have HB := hI (((Below.refl _ _).alloc (Nat.le_refl _) _).trans (hb.mono (by simp)) : Below w.heap.size w w1)
 clear hb hz
 clear hc
 cases neg <;> cases hh
 all_goals (
  go_wp2
  go_ret
  exact ⟨rfl, HB.out⟩)
def TmAt (w : World) (p : Option Addr) (x : KT) : Prop := match x with
 | none => p = none
 | some t => ∃ b, p = some ⟨b, 0, none⟩ ∧ w.cell? ⟨b, 0, none⟩ = some (.string t.1) ∧ w.cell? ⟨b, 1, none⟩ = some (.bool t.2)
theorem TmAt.below {w w1 : World} {p : Option Addr} {x : KT} (h : TmAt w p x) (hb : Below w.heap.size w w1) : TmAt w1 p x := by
 cases x with
 | none => exact h
 | some t =>
  obtain ⟨b, h0, h1, h2⟩ := h
  exact ⟨b, h0, pw_cell_below hb h1, pw_cell_below hb h2⟩
def paramV (n : ByteArray) (absent : Bool) (x : KT) (ps : List S151) : Bool :=
 if paramGet ps n = { data := #[] } then absent else if absent then false else match x with
 | none => true
 | some t => holdB (paramGet ps n) t.1 != t.2
theorem paramFilter (w : World) (g : Nat) (q : Option Addr) (pr : S75) (n : ByteArray) (absent : Bool) (x : KT) (h : PrAt w g pr) (hx : TmAt w q x) (hn : upper n = n) (hs : n.size ≤ 4294967296) (hm : (paramGet pr.f1 n).size ≤ 140737488351232) (ht : ∀ t, x = some t → t.1.size ≤ 140737488351232) :
  Calls Tryz.prog 152 #[.agg #[.string n, .bool absent, .pointer q], .pointer (some ⟨g, 0, none⟩)] w fun e w' => e = .returned (.bool (paramV n absent x pr.f1)) ∧ Below w.heap.size w w' := by
 obtain ⟨M, lo, hi, c0, c1, c2, hP, hh⟩ := h
 have a1 : ∀ o, (w.alloc o).cell? ⟨g, 1, none⟩ = some (.map (some M)) := fun o => pw_cell_below (below_alloc (Below.refl _ _) o) c1
 have aP : ∀ o, PIn (w.alloc o) lo hi M pr.f1 := fun o => hP.later flat_string hh (below_alloc (Below.refl _ _) o)
 have aX : ∀ o, TmAt (w.alloc o) q x := fun o => hx.below (below_alloc (Below.refl _ _) o)
 clear c0 c2 c1 hP hx
 go_enter Tryz.func152, Tryz.ntmps152
 go_wp2_with fail
 have hz := new_blk w (.cells #[.string n, .bool absent, .pointer q] 170)
 have hb0 : Below w.heap.size w (w.alloc (.cells #[.string n, .bool absent, .pointer q] 170)) := below_alloc (Below.refl _ _) _
 have b1 := a1 (.cells #[.string n, .bool absent, .pointer q] 170)
 have bP := aP (.cells #[.string n, .bool absent, .pointer q] 170)
 have bX := aX (.cells #[.string n, .bool absent, .pointer q] 170)
 clear a1 aP aX
 generalize hw1 : w.alloc _ = w1 at hz hb0 b1 bP bX ⊢
 have hs1 : hi ≤ w1.heap.size := by rw [← hw1]; simp; omega
 clear hw1
 have g1 : ∀ d os, (grow (redrawn w1 d) os).cell? ⟨g, 1, none⟩ = _ := fun d os => pw_cell_below (below_regrown _ _ _) b1
 have b0 : w1.cell? ⟨w.heap.size, 0, none⟩ = some (.string n) := (cell_blk hz 0).trans rfl
 have g0 : ∀ d os, (grow (redrawn w1 d) os).cell? ⟨w.heap.size, 0, none⟩ = _ := fun d os => pw_cell_below (below_regrown _ _ _) b0
 have gP : ∀ d os, PIn (grow (redrawn w1 d) os) lo hi M pr.f1 := fun d os => bP.later flat_string hs1 (below_regrown _ _ _)
 have HZ := hI hz
 have HB := hI hb0
 have HX := hI bX
 have HP := hI gP
 clear hz hb0 bX gP bP
 refine wp_region_quiet_below (by kernel_rfl) (by kernel_rfl) ?_; (repeat (first | go_big_quiet_step ((go_at_call 87; exact Calls.regrown_of (paramsGet _ lo hi M pr.f1 n (HP.out _ _) hn hs))) | quiet_step ((go_at_call 87; exact Calls.regrown_of (paramsGet _ lo hi M pr.f1 n (HP.out _ _) hn hs))))); refine wpQuiet_nil ?_; intro wq hw'; obtain ⟨⟨dq, osq⟩, hw''⟩ := hw'; have hbq := below_quiet hw''; clear hw''
 have hz := below_blk hbq HZ.out
 have hX := HX.out.below hbq
 have d1 : wq.cell? ⟨w.heap.size, 1, none⟩ = some (.bool absent) := (cell_blk hz 1).trans rfl
 have d2 : wq.cell? ⟨w.heap.size, 2, none⟩ = some (.pointer q) := (cell_blk hz 2).trans rfl
 have HB2 := hI (HB.out.trans (hbq.mono HB.out.size))
 clear hz HZ HX HB hbq b0 b1 g0 g1
 by_cases he : paramGet pr.f1 n = { data := #[] }
 ·have hV : Hid (paramV n absent x pr.f1 = absent) := hI (if_pos he)
  rw [he]
  clear hX
  go_wp2
  go_ret
  exact ⟨by rw [hV.out]; rfl, HB2.out⟩
 ·have hv' := notEmpty he
  cases ha : absent with
  | true =>
   subst ha
   have hV : Hid (paramV n true x pr.f1 = false) := hI (by unfold paramV; rw [if_neg he]; rfl)
   clear hX
   go_wp2
   go_ret
   exact ⟨by rw [hV.out]; rfl, HB2.out⟩
  | false =>
   subst ha
   cases x with
   | none =>
    have hV : Hid (paramV n false none pr.f1 = true) := hI (by unfold paramV; rw [if_neg he]; rfl)
    obtain rfl : q = none := hX
    go_wp2
    go_ret
    exact ⟨by rw [hV.out]; rfl, HB2.out⟩
   | some t =>
    have hV : Hid (paramV n false (some t) pr.f1 = (holdB (paramGet pr.f1 n) t.1 != t.2)) := hI (by unfold paramV; rw [if_neg he]; rfl)
    obtain ⟨b, rfl, t0, t1⟩ := hX
    go_wp2_with fail
    refine (textMatch t.1 (paramGet pr.f1 n) t.2 wq hm (ht t rfl)).mono ?_
    rintro e w5 ⟨rfl, hb⟩
    have HB3 := hI (HB2.out.trans (hb.mono HB2.out.size))
    clear hb t0 t1 d1 d2
    go_wp2
    go_ret
    exact ⟨by rw [hV.out]; rfl, HB3.out⟩
end Go.Proofs.YtcllaplddebilaaGreatDoor
end

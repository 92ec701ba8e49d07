/- laws.FnKMatch: a part of the proof: KMatches, IcalOf, CompFilt, MatchW, KMatchW, FitsK. -/
import Derived.Test.YtcllaplddebilaaGreatDoorK26
set_option maxRecDepth 1000000
set_option maxHeartbeats 64000000
set_option linter.unusedVariables false
set_option linter.unusedSimpArgs false
namespace Go.Proofs.YtcllaplddebilaaGreatDoor
open Go.RowKit Go.Sort
attribute [local go_sem] cell?_grow frozen?_grow cell?_redrawn frozen?_redrawn size_redrawn size_grow ba_get ba_extract
attribute [local simp] size_redrawn
open Go.Lib Go.Proofs.YtcllaplddebilaaGreatDoorW.PrintWords Go.Proofs.YtcllaplddebilaaGreatDoorW.PrintLast Go.Proofs.YtcllaplddebilaaGreatDoorW.PrintMore PFnKMatch
def KMPost (w : World) (f : ByteArray → Option ByteArray) (fc : KCo) (x : S36) (e : Ending) (w' : World) : Prop := ∃ m o : Bool, e = .returned (.tuple #[.bool m, .bool o]) ∧ Below w.heap.size w w' ∧ (o = false → (x.f0 = fc.name → CompOk f fc x) ∧ m = mV fc x)
theorem kMatches (w : World) (f : ByteArray → Option ByteArray) (fc : KCo) (x : S36) (PA CA A B : Option Addr) (pac cac c c2 : Nat) (hPA : kPr.C w PA fc.props.length fc.props) (hCA : kCo.C w CA fc.comps.length fc.comps) (hx : k75.C w A x.f1.length x.f1) (hxk : k36.C w B x.f2.length x.f2) (hK : KOk fc) (hxo : AllC okC x) (hTab : TabOk f) :
  Calls Tryz.prog 15 #[.agg #[.string fc.name, .bool fc.absent, .bool fc.has, .bool fc.hasEnd, .int .i64 fc.st, .int .i64 fc.en, .slice PA fc.props.length pac, .slice CA fc.comps.length cac], .agg #[.string x.f0, .slice A x.f1.length c, .slice B x.f2.length c2]] w (KMPost w f fc x) := by
 obtain ⟨ab, hab⟩ : ∃ b, fc.absent = b := ⟨_, rfl⟩
 obtain ⟨hs, hhs⟩ : ∃ b, fc.has = b := ⟨_, rfl⟩
 have HAB := hI hab
 have HHS := hI hhs
 clear hab hhs
 have HA := hI (And.intro hPA (And.intro hCA (And.intro hx hxk)))
 clear hPA hCA hx hxk
 go_enter Tryz.func15, Tryz.ntmps15
 go_upto_region 1 with (fail)
 have hb1 := (below_alloc (Below.refl w.heap.size w) (.cells #[.string fc.name, .bool fc.absent, .bool fc.has, .bool fc.hasEnd, .int .i64 fc.st, .int .i64 fc.en, .slice PA fc.props.length pac, .slice CA fc.comps.length cac] 42)).alloc (by rw [World.size_alloc]; omega) (.cells #[.string x.f0, .slice A x.f1.length c, .slice B x.f2.length c2] 36)
 have hF := old_blk (new_blk w (.cells #[.string fc.name, .bool fc.absent, .bool fc.has, .bool fc.hasEnd, .int .i64 fc.st, .int .i64 fc.en, .slice PA fc.props.length pac, .slice CA fc.comps.length cac] 42)) (.cells #[.string x.f0, .slice A x.f1.length c, .slice B x.f2.length c2] 36)
 have hX := new_blk (w.alloc (.cells #[.string fc.name, .bool fc.absent, .bool fc.has, .bool fc.hasEnd, .int .i64 fc.st, .int .i64 fc.en, .slice PA fc.props.length pac, .slice CA fc.comps.length cac] 42)) (.cells #[.string x.f0, .slice A x.f1.length c, .slice B x.f2.length c2] 36)
 rw [World.size_alloc] at hX
 generalize hw1 : World.alloc _ _ = w1 at hb1 hF hX ⊢
 clear hw1
 have x0 : w1.cell? ⟨w.heap.size, 0, none⟩ = some (.string fc.name) := (cell_blk hF 0).trans rfl
 have y0 : w1.cell? ⟨w.heap.size + 1, 0, none⟩ = some (.string x.f0) := (cell_blk hX 0).trans rfl
 have HB := hI hb1
 have HF := hI hF
 have HX := hI hX
 have hsz : w.heap.size + 2 ≤ w1.heap.size := by have := lt_blk hX; omega
 clear hb1 hF hX
 by_cases hn : x.f0 = fc.name
 ·have hnb : (fc.name.toList == x.f0.toList) = true := by rw [hn]; simp
  have HN := hI hn
  clear hn
  go_upto_region 4 with (fail)
  have hb2 := below_alloc (Below.refl w1.heap.size w1) (.cells #[.bool false] 85)
  have hO := new_blk w1 (.cells #[.bool false] 85)
  have hF := old_blk HF.out (.cells #[.bool false] 85)
  have hX := old_blk HX.out (.cells #[.bool false] 85)
  generalize hw2 : World.alloc _ _ = w2 at hb2 hO hF hX ⊢
  clear hw2 x0 y0
  obtain ⟨O, hOe⟩ : ∃ O, O = w1.heap.size := ⟨_, rfl⟩
  rw [← hOe] at hO ⊢
  have hO2 : w.heap.size + 2 ≤ O := by omega
  have HB := hI (HB.out.trans (hb2.mono HB.out.size))
  have HF := hI hF
  have HX := hI hX
  clear hb2 hF hX hOe hnb
  have x0 : w2.cell? ⟨w.heap.size, 0, none⟩ = some (.string fc.name) := (cell_blk HF.out 0).trans rfl
  have x1 : w2.cell? ⟨w.heap.size, 1, none⟩ = some (.bool fc.absent) := (cell_blk HF.out 1).trans rfl
  have x2 : w2.cell? ⟨w.heap.size, 2, none⟩ = some (.bool fc.has) := (cell_blk HF.out 2).trans rfl
  have x3 : w2.cell? ⟨w.heap.size, 3, none⟩ = some (.bool fc.hasEnd) := (cell_blk HF.out 3).trans rfl
  have x4 : w2.cell? ⟨w.heap.size, 4, none⟩ = some (.int .i64 fc.st) := (cell_blk HF.out 4).trans rfl
  have x5 : w2.cell? ⟨w.heap.size, 5, none⟩ = some (.int .i64 fc.en) := (cell_blk HF.out 5).trans rfl
  have x6 : w2.cell? ⟨w.heap.size, 6, none⟩ = some (.slice PA fc.props.length pac) := (cell_blk HF.out 6).trans rfl
  have x7 : w2.cell? ⟨w.heap.size, 7, none⟩ = some (.slice CA fc.comps.length cac) := (cell_blk HF.out 7).trans rfl
  have y0 : w2.cell? ⟨w.heap.size + 1, 0, none⟩ = some (.string x.f0) := (cell_blk HX.out 0).trans rfl
  have y1 : w2.cell? ⟨w.heap.size + 1, 1, none⟩ = some (.slice A x.f1.length c) := (cell_blk HX.out 1).trans rfl
  have y2 : w2.cell? ⟨w.heap.size + 1, 2, none⟩ = some (.slice B x.f2.length c2) := (cell_blk HX.out 2).trans rfl
  obtain ⟨hPA, hCA, hx, hxk⟩ := HA.out
  go_wp2_with fail
  with_reducible refine (seenComp w w2 O false f fc x PA CA A B pac cac c c2 HB.out (by omega) hO hPA hCA hx hxk hK hxo hTab).mono ?_
  rintro _ w3 ⟨o, v, rfl, hC, hO3, hP⟩
  have HB := hI (HB.out.trans (hO3.below HB.out.size (by intro y hy; simp at hy; omega)))
  have HF := hI (hO3.blk HF.out (by simp; omega))
  have HC := hI hC
  have HP : Hid (o = false → (x.f0 = fc.name → CompOk f fc x) ∧ v = mV fc x) := hI (fun h => ⟨fun _ => (hP h).2.1, by rw [(hP h).2.2]; unfold mV; rw [if_pos HN.out]⟩)
  clear hO3 hC hP x0 x1 x2 x3 x4 x5 x6 x7 y0 y1 y2 hPA hCA hx hxk hO
  have r0 : w3.cell? ⟨O, 0, none⟩ = some (.bool o) := (cell_blk HC.out 0).trans rfl
  have x2 : w3.cell? ⟨w.heap.size, 2, none⟩ = some (.bool hs) := by rw [← HHS.out]; exact (cell_blk HF.out 2).trans rfl
  have HBq : ∀ n, Below w.heap.size w (w3.drewN n) := fun n => below_drewN HB.out n
  go_upto_region 5 with (fail)
  cases o with
  | true =>
   go_quiet (fail)
   go_wp2
   exact bodyPost_ret (v := .tuple #[.bool v, .bool true]) (by simp [results, Tryz.results15, go_sem]) rfl ⟨v, true, rfl, HBq _, fun h => nomatch h⟩
  | false =>
   go_quiet (fail)
   go_wp2
   exact bodyPost_ret (v := .tuple #[.bool v, .bool hs]) (by simp [results, Tryz.results15, go_sem]) rfl ⟨v, hs, rfl, HBq _, fun h => HP.out (by first | rfl | trivial)⟩
 ·have hnb : (fc.name.toList == x.f0.toList) = false := tl_ne (fun h => hn h.symm)
  have x1 : w1.cell? ⟨w.heap.size, 1, none⟩ = some (.bool ab) := by rw [← HAB.out]; exact (cell_blk HF.out 1).trans rfl
  have HBq : ∀ n, Below w.heap.size w (w1.drewN n) := fun n => below_drewN HB.out n
  go_upto_region 2 with (fail)
  clear x0 y0
  go_quiet (fail)
  go_wp2
  exact bodyPost_ret (v := .tuple #[.bool ab, .bool ab]) (by simp [results, Tryz.results15, go_sem]) rfl ⟨ab, ab, rfl, HBq _, fun h => ⟨fun h2 => absurd h2 hn, by unfold mV; rw [if_neg hn, HAB.out]⟩⟩
theorem info_prop9 : (Tryz.prog.info? 116).map (fun i => (i.zero, i.size, i.bytes)) = some (some (.agg #[.string { data := #[] }, .map none, .string { data := #[] }]), 3, 40) := by kernel_rfl
theorem info_pc : (Tryz.prog.info? 63).map (fun i => (i.zero, i.size, i.bytes)) = some (some (.pointer none), 1, 8) := by kernel_rfl
def IcalPost (w : World) (x : S36) (e : Ending) (w' : World) : Prop := ∃ C : Nat, e = .returned (.pointer (some ⟨C, 0, none⟩)) ∧ CompIn w' w.heap.size w'.heap.size C x ∧ Below w.heap.size w w'
def GsFor (w : World) (lo : Nat) (gs : List GP) (ps : List S75) : Prop := gs.length = ps.length ∧ ∀ (j : Nat) g p, gs[j]? = some g → ps[j]? = some p → g.name = p.f0 ∧ g.value = p.f2 ∧ PIn w lo w.heap.size g.m p.f1
theorem GsFor.later {w w1 : World} {lo : Nat} {gs : List GP} {ps : List S75} (h : GsFor w lo gs ps) (hb : Below w.heap.size w w1) : GsFor w1 lo gs ps :=
 ⟨h.1, fun j g p hg hp => by
  obtain ⟨a, b, c⟩ := h.2 j g p hg hp
  exact ⟨a, b, (c.later flat_string (Nat.le_refl _) hb).wide (Nat.le_refl _) hb.size⟩⟩
theorem lookG_len (gs : List GP) (n : ByteArray) : (lookG gs n).length ≤ gs.length := List.length_filter_le _ _
theorem icalOf_step (x : S36) (hO : AllC okC x)
  (ih : ∀ k ∈ x.f2, ∀ (A B : Option Addr) (c c2 : Nat) (w0 w : World), Below w0.heap.size w0 w → k75.C w0 A k.f1.length k.f1 → k36.C w0 B k.f2.length k.f2 → Calls Tryz.prog 24 #[.agg #[.string k.f0, .slice A k.f1.length c, .slice B k.f2.length c2]] w (IcalPost w k))
  (A B : Option Addr) (c c2 : Nat) (w0 w : World) (hb0 : Below w0.heap.size w0 w) (hp : k75.C w0 A x.f1.length x.f1) (hkk : k36.C w0 B x.f2.length x.f2) :
  Calls Tryz.prog 24 #[.agg #[.string x.f0, .slice A x.f1.length c, .slice B x.f2.length c2]] w (IcalPost w x) := by
 have hmm := @run_makeMap Tryz.prog
 have hl1 := hp.2.1
 have hl2 := hkk.2.1
 have hOk := hI hO.here
 go_enter Tryz.func24, Tryz.ntmps24
 go_wp2_with fail
 go_loopw [16] (fun i wr => ∃ (k : Nat) (gs : List GP) (f : ByteArray → Option Value), k ≤ x.f1.length ∧ i = .int .i64 k ∧ Hid (Below w.heap.size w wr) ∧ w.heap.size + 2 < wr.heap.size ∧
   Hid (wr.heap[w.heap.size]? = some (.cells #[.string x.f0, .slice A x.f1.length c, .slice B x.f2.length c2] 36)) ∧
   Hid (wr.heap[w.heap.size + 1 + 1]? = some (.cells #[.string x.f0, .map (some (w.heap.size + 1)), .slice none 0 0] 110)) ∧
   Hid (GMap kGP 116 wr w.heap.size (w.heap.size + 1) (lookG gs) f) ∧ Hid (GsFor wr (w.heap.size + 2) gs (x.f1.take k))) (fun i _ => x.f1.length - (RowKit.intOf i).toNat)
 case atStart =>
  refine ⟨0, [], _, Nat.zero_le _, rfl, hI ?_, by simp, hI (old_blk (old_blk (new_blk w _) _) _), hI ?_, hI (GMap.empty ?_), hI ⟨rfl, fun j g p hg => by simp at hg⟩⟩
  ·exact (((Below.refl _ _).alloc (Nat.le_refl _) _).alloc (by simp) _).alloc (by simp; omega) _
  ·have h := new_blk ((w.alloc (Obj.cells #[Value.string x.f0, Value.slice A x.f1.length c, Value.slice B x.f2.length c2] 36)).alloc (Obj.map #[] 0)) (.cells #[.string x.f0, .map (some (w.heap.size + 1)), .slice none 0 0] 110)
   simpa using h
  ·have h := old_blk (new_blk (w.alloc (Obj.cells #[Value.string x.f0, Value.slice A x.f1.length c, Value.slice B x.f2.length c2] 36)) (Obj.map #[] 0)) (.cells #[.string x.f0, .map (some (w.heap.size + 1)), .slice none 0 0] 110)
   simpa using h
 case round =>
  obtain ⟨k, gs, f, hk, rfl, hB, hsz, hX, hC, hM, hG⟩ := hrel
  obtain ⟨wo, rfl⟩ : ∃ wo : World, wo = wr := ⟨_, rfl⟩
  have hW : Below w0.heap.size w0 wo := hb0.trans (hB.out.mono hb0.size)
  by_cases hlt : k < x.f1.length
  ·obtain ⟨p, hpe⟩ : ∃ p, x.f1[k]? = some p := ⟨_, List.getElem?_eq_getElem hlt⟩
   obtain ⟨ad, V, cv, rfl, hlv, hrv, g0, g1, g2⟩ := at75 hp k p hpe
   have hpe := hI hpe
   have g0 := pw_cell_below hW g0
   have g1 := pw_cell_below hW g1
   have g2 := pw_cell_below hW g2
   go_wp2_with fail
   have hbx := new_blk wo (.cells #[.string p.f0, .slice V p.f1.length cv, .string p.f2] 75)
   have hb1 : Below wo.heap.size wo (wo.alloc (.cells #[.string p.f0, .slice V p.f1.length cv, .string p.f2] 75)).drew := (below_alloc (Below.refl _ _) _).drew
   generalize hw2 : wo.alloc _ = w2 at hbx hb1 ⊢
   have hs2 : w2.drew.heap.size = wo.heap.size + 1 := by rw [← hw2]; simp
   clear hw2 g0 g1 g2
   have hX2 := below_blk hb1 hX.out
   have hC2 := below_blk hb1 hC.out
   have hM2 := hM.out.below flat_GP hb1
   have hG2 := hG.out.later hb1
   have hB2 := hB.out.trans (hb1.mono hB.out.size)
   have hW2 := hW.trans (hb1.mono hW.size)
   have hE2 := (show w2.drew.heap[wo.heap.size]? = _ from hbx)
   have q0 := (cell_blk hC2 1).trans rfl
   have q1 := (cell_blk hbx 0).trans rfl
   have q2 := (cell_blk hbx 1).trans rfl
   have q3 := (cell_blk hbx 2).trans rfl
   have q4 := hM2.look p.f0 (P := Tryz.prog) (mty := 107) Tryz.underlying107 Tryz.underlying9 (fun _ => by kernel_rfl)
   clear hbx hb1 hM hG hB hW hX hC
   refine start_ (n := 24) (S := fun W => W.cell? ⟨w.heap.size + 1 + 1, 1, none⟩ = some (.map (some (w.heap.size + 1))) ∧ W.cell? ⟨wo.heap.size, 0, none⟩ = some (.string p.f0) ∧ W.cell? ⟨wo.heap.size, 1, none⟩ = some (.slice V p.f1.length cv) ∧ W.cell? ⟨wo.heap.size, 2, none⟩ = some (.string p.f2) ∧ (Instr.lookup 107 (.map (some (w.heap.size + 1))) (.string p.f0) false).run Tryz.prog W = .ok ((f p.f0).getD nilS) W) (ds := [23]) (bM 24 0) (by kernel_rfl) rfl (by kernel_rfl) ⟨q0, q1, q2, q3, q4⟩ (fun hHeld => ?_)
   generalize w2.drew = w3 at hX2 hC2 hM2 hG2 hB2 hW2 hE2 hs2 hHeld ⊢
   have HX := hI hX2
   have HC := hI hC2
   have HM := hI hM2
   have HG := hI hG2
   have HB := hI hB2
   have HE := hI hE2
   have HV := hI (Kd.C_below hrv hW2)
   clear hX2 hC2 hM2 hG2 hB2 hW2 hE2 q0 q1 q2 q3 q4
   refine pU 0 24 1 (some 20) rfl rfl (by kernel_rfl) rfl (fun _ => by go_simp; with_reducible rfl) (by simp only [sW]; rfl) ?_
   refine pU 1 24 3 (some 21) rfl rfl (by kernel_rfl) rfl (fun _ => by go_simp; with_reducible rfl) (by simp only [sW]; rfl) ?_
   refine pU 2 24 7 (some 22) rfl rfl (by kernel_rfl) rfl (fun _ => by go_simp; with_reducible rfl) (by simp only [sW]; rfl) ?_
   refine tA 3 24 15 (some 23) rfl rfl (by kernel_rfl) rfl (fun _ ⟨s0, s1, s2, s3, s4⟩ => by go_simp; with_reducible rfl) hHeld (by simp only [sW]; rfl) ?_
   refine pU 4 24 31 (some 24) rfl rfl (by kernel_rfl) rfl (fun _ => by go_simp; with_reducible rfl) (by simp only [sW]; rfl) ?_
   refine tA 5 24 63 (some 25) rfl rfl (by kernel_rfl) rfl (fun _ ⟨s0, s1, s2, s3, s4⟩ => by go_simp; with_reducible rfl) hHeld (by simp only [sW]; rfl) ?_
   refine pU 6 24 127 (some 26) rfl rfl (by kernel_rfl) rfl (fun _ => by go_simp; with_reducible rfl) (by simp only [sW]; rfl) ?_
   refine pU 7 24 255 (some 27) rfl rfl (by kernel_rfl) rfl (fun _ => by go_simp; with_reducible rfl) (by simp only [sW]; rfl) ?_
   refine pU 8 24 511 (some 28) rfl rfl (by kernel_rfl) rfl (fun _ => by go_simp; with_reducible rfl) (by simp only [sW]; rfl) ?_
   refine tA 9 24 1023 (some 29) rfl rfl (by kernel_rfl) rfl (fun _ ⟨s0, s1, s2, s3, s4⟩ => by go_simp; with_reducible rfl) hHeld (by simp only [sW]; rfl) ?_
   refine pU 10 24 2047 (some 30) rfl rfl (by kernel_rfl) rfl (fun _ => by go_simp; with_reducible rfl) (by simp only [sW]; rfl) ?_
   refine tA 11 24 4095 (some 31) rfl rfl (by kernel_rfl) rfl (fun _ ⟨s0, s1, s2, s3, s4⟩ => by go_simp; with_reducible rfl) hHeld (by simp only [sW]; rfl) ?_
   refine tA 12 24 8191 (some 32) rfl rfl (by kernel_rfl) rfl (fun _ ⟨s0, s1, s2, s3, s4⟩ => by go_simp; with_reducible rfl) hHeld (by simp only [sW]; rfl) ?_
   refine pU 13 24 16383 (some 33) rfl rfl (by kernel_rfl) rfl (fun _ => by go_simp; with_reducible rfl) (by simp only [sW]; rfl) ?_
   refine tA 14 24 32767 (some 34) rfl rfl (by kernel_rfl) rfl (fun _ ⟨s0, s1, s2, s3, s4⟩ => by go_simp; with_reducible rfl) hHeld (by simp only [sW]; rfl) ?_
   refine pU 15 24 65535 (some 35) rfl rfl (by kernel_rfl) rfl (fun _ => by go_simp; with_reducible rfl) (by simp only [sW]; rfl) ?_
   refine tA 16 24 131071 (some 36) rfl rfl (by kernel_rfl) rfl (fun _ ⟨s0, s1, s2, s3, s4⟩ => by go_simp; with_reducible rfl) hHeld (by simp only [sW]; rfl) ?_
   refine pU 18 24 393215 (some 38) rfl rfl (by kernel_rfl) rfl (fun _ => by go_simp; with_reducible rfl) (by simp only [sW]; rfl) ?_
   refine tA 19 24 917503 (some 39) rfl rfl (by kernel_rfl) rfl (fun _ ⟨s0, s1, s2, s3, s4⟩ => by go_simp; with_reducible rfl) hHeld (by simp only [sW]; rfl) ?_
   refine oN 17 24 1048575 (some 37) rfl rfl (by kernel_rfl) (by decide) (fun K hK => ?_)
   refine goes_ Tryz.func45 (by kernel_rfl) rfl #[.slice V p.f1.length cv] (by rfl) rfl rfl (by (try simp only [List.map_toArray, List.map_cons, List.map_nil]); first | done | rfl | (simp only [List.length_drop, List.length_take]; rfl)) ?_; refine (mapOf p.f1 V cv _ HV.out (hOk.out.2.2 p (List.mem_of_getElem? hpe.out)).2.2.2 (hOk.out.2.2 p (List.mem_of_getElem? hpe.out)).2.2.1).mono ?_
   rintro e w4 ⟨M, fm, rfl, hMl, hMm, hb4⟩
   refine ⟨_, rfl, ?_⟩
   have hs4 := hb4.size
   have hIn := GIn.of hMm hMl
   have HX := hI (below_blk hb4 HX.out)
   have HC := hI (below_blk hb4 HC.out)
   have HE := hI (below_blk hb4 HE.out)
   have HM := hI (HM.out.below flat_GP hb4)
   have HG := hI (HG.out.later hb4)
   have HB := hI (HB.out.trans (hb4.mono HB.out.size))
   have HI := hI hIn
   have q4 := HM.out.look p.f0 (P := Tryz.prog) (mty := 107) Tryz.underlying107 Tryz.underlying9 (fun _ => by kernel_rfl)
   clear hMm hb4 hIn HV
   refine hK.out _ _ ⟨(cell_blk HC.out 1).trans rfl, (cell_blk HE.out 0).trans rfl, (cell_blk HE.out 1).trans rfl, (cell_blk HE.out 2).trans rfl, q4⟩ (fun hHeld => ?_)
   clear hK K
   refine norm_ (by show Act.put _ (some 37) _ = _; simp only [sW]; rfl) ?_
   refine pU 20 24 2097151 (some 40) rfl rfl (by kernel_rfl) rfl (fun _ => by go_simp; with_reducible rfl) (by simp only [sW]; rfl) ?_
   refine oN 21 24 4194303 (some 41) rfl rfl (by kernel_rfl) (by decide) (fun K hK => ?_)
   have q4b : ∀ o, (Instr.lookup 107 (.map (some (w.heap.size + 1))) (.string p.f0) false).run Tryz.prog (w4.alloc o) = .ok ((f p.f0).getD nilS) (w4.alloc o) := fun o => (HM.out.below flat_GP (below_alloc (Below.refl _ _) o)).look p.f0 (P := Tryz.prog) (mty := 107) Tryz.underlying107 Tryz.underlying9 (fun _ => by kernel_rfl)
   have q4b := q4b (.cells #[.string p.f0, .map (some M), .string p.f2] 116)
   refine value_ (v := ?_) (w1 := ?_) (by rfl) rfl ?_ ?_; rotate_left 2; (go_simp; first | rfl | (constructor <;> rfl))
   refine hK.out _ _ ⟨(cell_blk (old_blk HC.out _) 1).trans rfl, (cell_blk (old_blk HE.out _) 0).trans rfl, (cell_blk (old_blk HE.out _) 1).trans rfl, (cell_blk (old_blk HE.out _) 2).trans rfl, q4b⟩ (fun hHeld => ?_)
   clear hK K
   refine norm_ (by show Act.put _ (some 41) _ = _; simp only [sW]; rfl) ?_
   refine oN 22 24 8388607 (some 42) rfl rfl (by kernel_rfl) (by decide) (fun K hK => ?_)
   refine Kd.R_append_step kGP (w0 := w) w.heap.size (by rfl) _ _ 111 116 (.agg #[.string { data := #[] }, .map none, .string { data := #[] }]) 40 rfl Tryz.underlying111 info_prop9 rfl (by decide) (by decide) ((f p.f0).getD nilS) (lookG gs p.f0) ⟨p.f0, M, p.f2⟩ [.string p.f0, .map (some M), .string p.f2] (fun _ => True) (fun _ => False) (by rfl) (by rfl) (kGP_mkM w4 _ _ ⟨p.f0, M, p.f2⟩) (fun _ h => h.elim) (fun _ _ => trivial) (HM.out.at_ p.f0) HB.out HB.out.size ?_ ?_
   ·have h1 := lookG_len gs p.f0
    have h2 := HG.out.1
    have h3 : (x.f1.take k).length ≤ k := List.length_take_le _ _
    have h4 := hOk.out.1
    omega
   intro v1 w5 hR5 hB5 hg5 hat5
   have hR4 := HM.out.at_ p.f0
   have hsz4 : w.heap.size + 2 < w4.heap.size := by omega
   have hC5 := (hg5.block _ (by omega) (fun e => Kd.R_ne hR4 HC.out (by decide) e)).trans HC.out
   have hX5 := (hg5.block _ (by omega) (fun e => Kd.R_ne hR4 HX.out (by decide) e)).trans HX.out
   have hE5 := (hg5.block _ (by omega) (fun e => Kd.R_ne hR4 HE.out (by decide) e)).trans HE.out
   have hmp : MapF w5 (w.heap.size + 1) f := HM.out.map.of_heap (hg5.block _ HM.out.map.lt (by
    intro e
    cases hf : f p.f0 with
    | none => rw [hf] at e; simp [nilS, Value.ownBlock] at e
    | some v => rw [hf] at e; exact HM.out.ne hf _ e.symm rfl))
   obtain ⟨o, hrun, ho⟩ := hmp.put (P := Tryz.prog) (mty := 107) p.f0 v1 Tryz.underlying107 Tryz.underlying9
   have hlk5 : (Instr.lookup 107 (.map (some (w.heap.size + 1))) (.string p.f0) false).run Tryz.prog w5 = .ok ((f p.f0).getD nilS) w5 := by
    cases hf : f p.f0 with
    | none => exact hmp.miss hf false nilS Tryz.underlying107 Tryz.underlying9 (by kernel_rfl)
    | some v => exact hmp.get hf false Tryz.underlying107 Tryz.underlying9
   have hGm := HM.out.put flat_GP p.f0 hg5 hR5 hat5 ho
   refine hK.out _ _ ⟨(cell_blk hC5 1).trans rfl, (cell_blk hE5 0).trans rfl, (cell_blk hE5 1).trans rfl, (cell_blk hE5 2).trans rfl, hlk5⟩ (fun hHeld => ?_)
   clear hK K
   refine norm_ (by show Act.put _ (some 42) _ = _; simp only [sW]; rfl) ?_
   refine lA 23 24 16777215 none rfl rfl (by kernel_rfl) (by decide) (fun K hK => ?_)
   refine skip_ (w1 := ?_) (by rfl) rfl ?_ ?_; rotate_left; (go_simp; first | rfl | done)
   refine hK.out _ _ ?_
   clear hK K
   refine done_ (by kernel_rfl) ?_
   have hB6 := below_mset hB5 (w.heap.size + 1) o (by omega)
   have hC6 := (mset_other w5 (w.heap.size + 1) (w.heap.size + 1 + 1) o (by omega)).trans hC5
   have hX6 := (mset_other w5 (w.heap.size + 1) w.heap.size o (by omega)).trans hX5
   have hG6 : GsFor { w5 with heap := w5.heap.setIfInBounds (w.heap.size + 1) o } (w.heap.size + 2) (gs ++ [⟨p.f0, M, p.f2⟩]) (x.f1.take (k + 1)) := by
    have hs6 : w4.heap.size ≤ ({ w5 with heap := w5.heap.setIfInBounds (w.heap.size + 1) o } : World).heap.size := by simpa using hg5.size
    have hlen : (x.f1.take k).length = k := by simp; omega
    refine ⟨by rw [take_snoc' _ _ _ hpe.out, List.length_append, List.length_append, HG.out.1]; rfl, fun j g q hg hq => ?_⟩
    rw [take_snoc' _ _ _ hpe.out] at hq
    rcases Nat.lt_or_ge j k with hj | hj
    ·rw [List.getElem?_append_left (by rw [HG.out.1, hlen]; exact hj)] at hg
     rw [List.getElem?_append_left (by rw [hlen]; exact hj)] at hq
     obtain ⟨a, b, d⟩ := HG.out.2 j g q hg hq
     exact ⟨a, b, (PIn.grown d hR4 hg5 (Nat.le_refl _) (by omega) o).wide (Nat.le_refl _) hs6⟩
    ·rw [List.getElem?_append_right (by rw [HG.out.1, hlen]; exact hj)] at hg
     rw [List.getElem?_append_right (by rw [hlen]; exact hj)] at hq
     have e1 := List.mem_singleton.1 (List.mem_of_getElem? hg)
     have e2 := List.mem_singleton.1 (List.mem_of_getElem? hq)
     subst e1
     subst e2
     exact ⟨rfl, rfl, (PIn.grown HI.out hR4 hg5 (Nat.le_refl _) (by omega) o).wide (by omega) hs6⟩
   have hM6 : GMap kGP 116 { w5 with heap := w5.heap.setIfInBounds (w.heap.size + 1) o } w.heap.size (w.heap.size + 1) (lookG (gs ++ [⟨p.f0, M, p.f2⟩])) (upd f p.f0 v1) := by
    rw [lookG_snoc]
    exact hGm
   have hz6 : w.heap.size + 2 < ({ w5 with heap := w5.heap.setIfInBounds (w.heap.size + 1) o } : World).heap.size := by have := hg5.size; simp; omega
   generalize hw6 : ({ w5 with heap := w5.heap.setIfInBounds (w.heap.size + 1) o } : World) = w6 at hB6 hC6 hX6 hG6 hM6 hz6 ⊢
   have J1 := hI hB6
   have J2 := hI hC6
   have J3 := hI hX6
   have J4 := hI hG6
   have J5 := hI hM6
   clear hw6 hB6 hC6 hX6 hG6 hM6 hGm hrun ho hmp hlk5 hC5 hX5 hE5 hat5 hg5 hR5 hB5 hR4 HX HC HE HM HG HB HI q4 q4b
   go_wp2
   go_roundw
   case rel => exact ⟨k + 1, _, _, by omega, by go_num, J1, hz6, J3, J2, J5, J4⟩
   case measure => simp [RowKit.intOf]; omega
  ·obtain rfl : k = x.f1.length := by omega
   have q0 : wo.cell? ⟨w.heap.size, 2, none⟩ = some (.slice B x.f2.length c2) := (cell_blk hX.out 2).trans rfl
   have hQ : QIn wo w.heap.size wo.heap.size (w.heap.size + 1) x.f1 gs := by
    have hg := hG.out
    rw [List.take_length] at hg
    refine ⟨GIn.of hM.out (by omega), hg.1, fun j g p a b => ?_⟩
    obtain ⟨h1, h2, h3⟩ := hg.2 j g p a b
    exact ⟨h1, h2, h3.wide (by omega) (Nat.le_refl _)⟩
   have HQ := hI hQ
   clear hQ hX hM hG
   go_wp2_with fail
   go_loopw [47] (fun i wr => ∃ (j : Nat) (v : Value) (ch : List Nat), j ≤ x.f2.length ∧ i = .int .i64 j ∧ Hid (Below w.heap.size w wr) ∧ wo.heap.size ≤ wr.heap.size ∧
     Hid (wr.heap[w.heap.size + 1 + 1]? = some (.cells #[.string x.f0, .map (some (w.heap.size + 1)), v] 110)) ∧ Hid (QIn wr w.heap.size wo.heap.size (w.heap.size + 1) x.f1 gs) ∧
     Hid (kPt.R 63 wr w.heap.size (fun _ => True) v ch) ∧ ch.length = j ∧
     Hid (∀ (a Ca : Nat) (y : S36), ch[a]? = some Ca → x.f2[a]? = some y → ∃ lo hi, CompIn wr lo hi Ca y ∧ wo.heap.size ≤ lo ∧ hi ≤ wr.heap.size ∧ ∀ b, v.ownBlock = some b → b < lo ∨ hi ≤ b)) (fun i _ => x.f2.length - (RowKit.intOf i).toNat)
   case atStart => exact ⟨0, nilS, [], Nat.zero_le _, rfl, hB, Nat.le_refl _, hC, HQ, hI (Kd.R_nil _ _ _ _ _), rfl, hI (fun a Ca y h => by simp at h)⟩
   case round =>
    clear q0
    obtain ⟨j, v, ch, hj, rfl, hB, hsw, hC, hQ, hR, hcl, hch⟩ := hrel
    obtain ⟨wi, rfl⟩ : ∃ wi : World, wi = wr := ⟨_, rfl⟩
    have hW : Below w0.heap.size w0 wi := hb0.trans (hB.out.mono hb0.size)
    by_cases hjt : j < x.f2.length
    ·obtain ⟨y, hye⟩ : ∃ y, x.f2[j]? = some y := ⟨_, List.getElem?_eq_getElem hjt⟩
     have hym := List.mem_of_getElem? hye
     obtain ⟨ad, V, cv, V2, cv2, rfl, hlv, hrv, hlv2, hrv2, g0, g1, g2⟩ := at36 hkk j y hye
     have g0 := pw_cell_below hW g0
     have g1 := pw_cell_below hW g1
     have g2 := pw_cell_below hW g2
     have hye := hI hye
     go_wp2_with fail
     have hbx := new_blk wi (.cells #[.string y.f0, .slice V y.f1.length cv, .slice V2 y.f2.length cv2] 36)
     have hb1 : Below wi.heap.size wi (wi.alloc (.cells #[.string y.f0, .slice V y.f1.length cv, .slice V2 y.f2.length cv2] 36)).drew := (below_alloc (Below.refl _ _) _).drew
     generalize hw2 : wi.alloc _ = w2 at hbx hb1 ⊢
     have hs2 : w2.drew.heap.size = wi.heap.size + 1 := by rw [← hw2]; simp
     clear hw2 g0 g1 g2
     have hC2 := below_blk hb1 hC.out
     have hR2 := Kd.R_below hR.out hb1
     have hQ2 := hQ.out.keep (w1 := w2.drew) (fun k _ h2 => hb1.block k (by omega))
     have hB2 := hB.out.trans (hb1.mono hB.out.size)
     have hW2 := hW.trans (hb1.mono hW.size)
     have hE2 := (show w2.drew.heap[wi.heap.size]? = _ from hbx)
     have hch2 : ∀ (a Ca : Nat) (y : S36), ch[a]? = some Ca → x.f2[a]? = some y → ∃ lo hi, CompIn w2.drew lo hi Ca y ∧ wo.heap.size ≤ lo ∧ hi ≤ w2.drew.heap.size ∧ ∀ b, v.ownBlock = some b → b < lo ∨ hi ≤ b := fun a Ca y' h1 h2 => by
      obtain ⟨lo, hi, d1, d2, d3, d4⟩ := hch.out a Ca y' h1 h2
      exact ⟨lo, hi, d1.later d3 hb1, d2, Nat.le_trans d3 hb1.size, d4⟩
     have q0 := (cell_blk hC2 2).trans rfl
     have q1 := (cell_blk hbx 0).trans rfl
     have q2 := (cell_blk hbx 1).trans rfl
     have q3 := (cell_blk hbx 2).trans rfl
     clear hbx hb1 hch hQ hB hW hC hR
     refine start_ (n := 12) (S := fun W => W.cell? ⟨w.heap.size + 1 + 1, 2, none⟩ = some v ∧ W.cell? ⟨wi.heap.size, 0, none⟩ = some (.string y.f0) ∧ W.cell? ⟨wi.heap.size, 1, none⟩ = some (.slice V y.f1.length cv) ∧ W.cell? ⟨wi.heap.size, 2, none⟩ = some (.slice V2 y.f2.length cv2)) (ds := [11]) (bM 12 0) (by kernel_rfl) rfl (by kernel_rfl) ⟨q0, q1, q2, q3⟩ (fun hHeld => ?_)
     generalize w2.drew = w3 at hC2 hR2 hQ2 hB2 hW2 hE2 hch2 hs2 hHeld ⊢
     have HC := hI hC2
     have HR := hI hR2
     have HQ := hI hQ2
     have HB := hI hB2
     have HW := hI hW2
     have HE := hI hE2
     have HH := hI hch2
     clear hC2 hR2 hQ2 hB2 hW2 hE2 hch2 q0 q1 q2 q3
     refine pU 0 12 1 (some 51) rfl rfl (by kernel_rfl) rfl (fun _ => by go_simp; with_reducible rfl) (by simp only [sW]; rfl) ?_
     refine pU 1 12 3 (some 52) rfl rfl (by kernel_rfl) rfl (fun _ => by go_simp; with_reducible rfl) (by simp only [sW]; rfl) ?_
     refine pU 2 12 7 (some 53) rfl rfl (by kernel_rfl) rfl (fun _ => by go_simp; with_reducible rfl) (by simp only [sW]; rfl) ?_
     refine pU 3 12 15 (some 54) rfl rfl (by kernel_rfl) rfl (fun _ => by go_simp; with_reducible rfl) (by simp only [sW]; rfl) ?_
     refine tA 4 12 31 (some 55) rfl rfl (by kernel_rfl) rfl (fun _ ⟨s0, s1, s2, s3⟩ => by go_simp; with_reducible rfl) hHeld (by simp only [sW]; rfl) ?_
     refine tA 5 12 63 (some 56) rfl rfl (by kernel_rfl) rfl (fun _ ⟨s0, s1, s2, s3⟩ => by go_simp; with_reducible rfl) hHeld (by simp only [sW]; rfl) ?_
     refine oN 6 12 127 (some 57) rfl rfl (by kernel_rfl) (by decide) (fun K hK => ?_)
     refine goes_ Tryz.func24 (by kernel_rfl) rfl #[.agg #[.string y.f0, .slice V y.f1.length cv, .slice V2 y.f2.length cv2]] (by rfl) rfl rfl (by (try simp only [List.map_toArray, List.map_cons, List.map_nil]); first | done | rfl | (simp only [List.length_drop, List.length_take]; rfl)) ?_; refine (ih y hym V V2 cv cv2 w0 _ HW.out hrv hrv2).mono ?_
     rintro e w4 ⟨Cy, rfl, hCy, hb4⟩
     refine ⟨_, rfl, ?_⟩
     have hs4 := hb4.size
     have hrow : ∀ b, v.ownBlock = some b → b < w3.heap.size := fun b hb => (R_typed HR.out b hb).2.1
     have HC := hI (below_blk hb4 HC.out)
     have HR := hI (Kd.R_below HR.out hb4)
     have HQ := hI (HQ.out.keep (w1 := w4) (fun k _ h2 => hb4.block k (by omega)))
     have HB := hI (HB.out.trans (hb4.mono HB.out.size))
     have HE := hI (below_blk hb4 HE.out)
     have hall : ∀ (a Ca : Nat) (z : S36), (ch ++ [Cy])[a]? = some Ca → x.f2[a]? = some z → ∃ lo hi, CompIn w4 lo hi Ca z ∧ wo.heap.size ≤ lo ∧ hi ≤ w4.heap.size ∧ ∀ b, v.ownBlock = some b → b < lo ∨ hi ≤ b := fun a Ca z h1 h2 => by
      rcases Nat.lt_or_ge a j with ha | ha
      ·rw [List.getElem?_append_left (by omega)] at h1
       obtain ⟨lo, hi, d1, d2, d3, d4⟩ := HH.out a Ca z h1 h2
       exact ⟨lo, hi, d1.later d3 hb4, d2, Nat.le_trans d3 hs4, d4⟩
      ·rw [List.getElem?_append_right (by omega)] at h1
       have e1 := List.mem_singleton.1 (List.mem_of_getElem? h1)
       have e0 := (List.getElem?_eq_some_iff.1 h1).1
       simp only [List.length_singleton] at e0
       have e2 : a = j := by omega
       subst e2
       rw [hye.out] at h2
       injection h2 with h2
       subst h2
       subst e1
       exact ⟨w3.heap.size, w4.heap.size, hCy, by omega, Nat.le_refl _, fun b hb => .inl (hrow b hb)⟩
     have HH := hI hall
     clear hall hCy hb4 hrow HW
     refine hK.out _ _ ⟨(cell_blk HC.out 2).trans rfl, (cell_blk HE.out 0).trans rfl, (cell_blk HE.out 1).trans rfl, (cell_blk HE.out 2).trans rfl⟩ (fun hHeld => ?_)
     clear hK K
     refine norm_ (by show Act.put _ (some 57) _ = _; simp only [sW]; rfl) ?_
     refine oN 7 12 255 (some 58) rfl rfl (by kernel_rfl) (by decide) (fun K hK => ?_)
     refine value_ (v := ?_) (w1 := ?_) (by rfl) rfl ?_ ?_; rotate_left 2; (go_simp; first | rfl | (constructor <;> rfl))
     refine hK.out _ _ ⟨(cell_blk (old_blk HC.out _) 2).trans rfl, (cell_blk (old_blk HE.out _) 0).trans rfl, (cell_blk (old_blk HE.out _) 1).trans rfl, (cell_blk (old_blk HE.out _) 2).trans rfl⟩ (fun hHeld => ?_)
     clear hK K
     refine norm_ (by show Act.put _ (some 58) _ = _; simp only [sW]; rfl) ?_
     refine oN 8 12 511 (some 59) rfl rfl (by kernel_rfl) (by decide) (fun K hK => ?_)
     refine Kd.R_append_step kPt (w0 := w) w.heap.size (by rfl) _ _ 108 63 (.pointer none) 8 rfl Tryz.underlying108 info_pc rfl (by decide) (by decide) v ch Cy [.pointer (some ⟨Cy, 0, none⟩)] (fun _ => True) (fun _ => False) (by rfl) (by rfl) rfl (fun _ h => h.elim) (fun _ _ => trivial) HR.out HB.out HB.out.size ?_ ?_
     ·have h4 := hOk.out.2.1
      omega
     intro v1 w5 hR5 hB5 hg5 hat5
     obtain ⟨A1, c1, hv1⟩ := Kd.R_slice hR5
     generalize (ch ++ [Cy]).length = nn at hv1
     subst hv1
     have hs5 := hg5.size
     have hC5 := (hg5.block _ (by omega) (fun e => Kd.R_ne HR.out HC.out (by decide) e)).trans HC.out
     have hE5 := (hg5.block _ (by omega) (fun e => Kd.R_ne HR.out HE.out (by decide) e)).trans HE.out
     refine hK.out _ _ ⟨(cell_blk hC5 2).trans rfl, (cell_blk hE5 0).trans rfl, (cell_blk hE5 1).trans rfl, (cell_blk hE5 2).trans rfl⟩ (fun hHeld => ?_)
     clear hK K
     refine norm_ (by show Act.put _ (some 59) _ = _; simp only [sW]; rfl) ?_
     refine pU 9 12 1023 (some 60) rfl rfl (by kernel_rfl) rfl (fun _ => by go_simp; with_reducible rfl) (by simp only [sW]; rfl) ?_
     refine pU 10 12 2047 (some 61) rfl rfl (by kernel_rfl) rfl (fun _ => by go_simp; with_reducible rfl) (by simp only [sW]; rfl) ?_
     refine lA 11 12 4095 none rfl rfl (by kernel_rfl) (by decide) (fun K hK => ?_)
     have cO := (cell_blk hC5 2).trans rfl
     have fO := frozen_blk hC5 2 (by omega)
     refine skip_ (w1 := ?_) (by rfl) rfl ?_ ?_; rotate_left; (go_simp; first | rfl | done)
     refine hK.out _ _ ?_
     clear hK K
     refine done_ (by kernel_rfl) ?_
     have hv1C : ∀ b, (Value.slice A1 nn c1).ownBlock = some b → b ≠ w.heap.size + 1 + 1 := by
      rintro b hb rfl
      exact Kd.R_ne hR5 hC5 (by decide) hb.symm
     have hfar : ∀ b, b ≠ w.heap.size + 1 + 1 → (w5.setCell ⟨w.heap.size + 1 + 1, 2, none⟩ (.slice A1 nn c1)).heap[b]? = w5.heap[b]? := fun b hb => Below.heap_setCell w5 ⟨w.heap.size + 1 + 1, 2, none⟩ (.slice A1 nn c1) b hb
     have hs6 : (w5.setCell ⟨w.heap.size + 1 + 1, 2, none⟩ (.slice A1 nn c1)).heap.size = w5.heap.size := by simp [World.setCell]
     have hB6 := hB5.setCell (p := ⟨w.heap.size + 1 + 1, 2, none⟩) (by simp; omega) (.slice A1 nn c1)
     have hC6 := set_blk hC5 2 (.slice A1 nn c1)
     have hR6 := R_flat (w1 := w5.setCell ⟨w.heap.size + 1 + 1, 2, none⟩ (.slice A1 nn c1)) flat_Pt hR5 (fun b hb => hfar b (hv1C b hb))
     have hQ6 : QIn (w5.setCell ⟨w.heap.size + 1 + 1, 2, none⟩ (.slice A1 nn c1)) w.heap.size wo.heap.size (w.heap.size + 1) x.f1 gs := by
      refine HQ.out.keepT (fun k a b hq => ?_)
      have hkC : k ≠ w.heap.size + 1 + 1 := by
       rintro rfl
       rcases hq with ⟨es, cc, h⟩ | ⟨cs, h⟩ | ⟨cs, h⟩ <;> (rw [HC.out] at h; simp at h)
      rw [hfar k hkC]
      refine hg5.block k (by omega) (fun e => ?_)
      obtain ⟨_, _, cs, h1⟩ := R_typed HR.out k e.symm
      rcases hq with ⟨es, cc, h⟩ | ⟨cs', h⟩ | ⟨cs', h⟩ <;> (rw [h1] at h; simp at h)
     have hH6 : ∀ (a Ca : Nat) (z : S36), (ch ++ [Cy])[a]? = some Ca → x.f2[a]? = some z → ∃ lo hi, CompIn (w5.setCell ⟨w.heap.size + 1 + 1, 2, none⟩ (.slice A1 nn c1)) lo hi Ca z ∧ wo.heap.size ≤ lo ∧ hi ≤ (w5.setCell ⟨w.heap.size + 1 + 1, 2, none⟩ (.slice A1 nn c1)).heap.size ∧ ∀ b, (Value.slice A1 nn c1).ownBlock = some b → b < lo ∨ hi ≤ b := fun a Ca z h1 h2 => by
      obtain ⟨lo, hi, d1, d2, d3, d4⟩ := HH.out a Ca z h1 h2
      refine ⟨lo, hi, d1.keep (fun k a b => ?_), d2, by omega, fun b hb => ?_⟩
      ·rw [hfar k (by omega)]
       refine hg5.block k (by omega) (fun e => ?_)
       have := d4 k e.symm
       omega
      ·rcases hat5 with hat | ⟨b', hb', hle⟩
       ·exact d4 b (hat ▸ hb)
       ·rw [hb'] at hb
        injection hb with hb
        omega
     generalize hw6 : w5.setCell _ _ = w6 at hB6 hC6 hR6 hQ6 hH6 hs6 ⊢
     have J1 := hI hB6
     have J2 := hI hC6
     have J3 := hI hR6
     have J4 := hI hQ6
     have J5 := hI hH6
     clear hw6 hB6 hC6 hR6 hQ6 hH6 hfar hv1C hC5 hE5 hg5 hB5 hR5 hat5 HC HR HQ HB HE HH cO fO
     go_wp2
     go_roundw
     case rel => exact ⟨j + 1, (.slice A1 nn c1), ch ++ [Cy], by omega, by go_num, J1, by omega, J2, J4, J3, by simp; omega, J5⟩
     case measure => simp [RowKit.intOf]; omega
    ·obtain rfl : j = x.f2.length := by omega
     have hfin : IcalPost w x (.returned (.pointer (some ⟨w.heap.size + 1 + 1, 0, none⟩))) wi := by
      obtain ⟨A', cc, rfl, hrow⟩ := KRow.of hR.out
      have hC' := hC.out
      rw [hcl] at hC'
      refine ⟨_, rfl, CompIn.mk _ (w.heap.size + 1) x A' cc ch gs (by omega) (by omega) hC' (hQ.out.wide (Nat.le_refl _) hsw) hcl hrow (fun a Ca y h1 h2 => ?_), hB.out⟩
      obtain ⟨lo, hi, d1, d2, d3, _⟩ := hch.out a Ca y h1 h2
      exact d1.wide (by omega) d3
     have hfin := hI hfin
     clear hB hC hQ hR hch
     go_wp2
     go_ret
     exact hfin.out
theorem icalOf (N : Nat) : ∀ (x : S36), SizeOf.sizeOf x ≤ N → AllC okC x → ∀ (A B : Option Addr) (c c2 : Nat) (w0 w : World), Below w0.heap.size w0 w → k75.C w0 A x.f1.length x.f1 → k36.C w0 B x.f2.length x.f2 →
  Calls Tryz.prog 24 #[.agg #[.string x.f0, .slice A x.f1.length c, .slice B x.f2.length c2]] w (IcalPost w x) := by
 induction N with
 | zero => intro x h; cases x; simp at h
 | succ N ih =>
  intro x hN hO A B c c2 w0 w hb hp hk
  exact icalOf_step x hO (fun k hkm A B c c2 w0 w hb hp hk => ih k (by have := kid_lt x k hkm; omega) (hO.kid hkm) A B c c2 w0 w hb hp hk) A B c c2 w0 w hb hp hk
abbrev oCs (g : KCo) (A B : Option Addr) (c c2 : Nat) : Array Value := oC g (.slice A g.props.length c) (.slice B g.comps.length c2)
theorem compFilter (w : World) (g : KCo) (A B : Option Addr) (c c2 C lo hi : Nat) (x : S36) (hC : CompIn w lo hi C x) (hh : hi ≤ w.heap.size) (hO : okC x)
  (ih : ∀ k ∈ x.f2, ∀ (Ck : Nat) (w' : World), Below w.heap.size w w' → CompIn w' lo hi Ck k → Calls Tryz.prog 70 #[.agg (oCs g A B c c2), .pointer (some ⟨Ck, 0, none⟩)] w' fun e w2 => e = .returned (.tuple #[.bool (mV g k), .nilIface]) ∧ Below w'.heap.size w' w2) :
  Calls Tryz.prog 111 #[.agg (oCs g A B c c2), .pointer (some ⟨C, 0, none⟩)] w fun e w' => e = .returned (.tuple #[.bool (kidV g x.f2), .nilIface]) ∧ Below w.heap.size w w' := by
 obtain ⟨P0, A', c', ch, gs, h1, h2, h3, h4, h5, h6, h7⟩ := hC.open_
 have hlk : x.f2.length ≤ 100 := hO.2.1
 have HI := hI ih
 clear hC ih h4
 rw [← any_mV]
 have aC : ∀ o, (w.alloc o).cell? ⟨C, 2, none⟩ = some (.slice A' x.f2.length c') := fun o => pw_cell_below (below_alloc (Below.refl _ _) o) ((cell_blk h3 2).trans rfl)
 go_enter Tryz.func111, Tryz.ntmps111
 go_wp2_with fail
 have hX := new_blk w (.cells (oCs g A B c c2) 91 (0, 0))
 have hb := below_alloc (Below.refl w.heap.size w) (.cells (oCs g A B c c2) 91 (0, 0))
 generalize hw1 : w.alloc _ = w1 at hX hb ⊢
 clear hw1 aC
 have HX := hI hX
 have HB := hI hb
 clear hX hb
 go_loopw [6, 16] (fun v i wr => ∃ (k : Nat) (ms : List Nat), k ≤ x.f2.length ∧ i = .int .i64 k ∧ Hid (Below w.heap.size w wr) ∧ Hid (wr.heap[w.heap.size]? = some (.cells (oCs g A B c c2) 91 (0, 0))) ∧
   Hid (kPt.R 63 wr (w.heap.size + 1) (fun _ => True) v ms) ∧ ms.length ≤ k ∧ Hid (ms.isEmpty = !((x.f2.take k).any (mV g)))) (fun _ i _ => x.f2.length - (RowKit.intOf i).toNat)
 case atStart => exact ⟨0, [], Nat.zero_le _, rfl, HB, HX, hI (Kd.R_nil _ _ _ _ _), Nat.le_refl _, hI rfl⟩
 case round =>
  clear HB HX
  obtain ⟨k, ms, hk, rfl, HB, HX, HR, hms, HA⟩ := hrel
  obtain ⟨wo, rfl⟩ : ∃ wo : World, wo = wr := ⟨_, rfl⟩
  by_cases hlt : k < x.f2.length
  ·obtain ⟨y, hye⟩ : ∃ y, x.f2[k]? = some y := ⟨_, List.getElem?_eq_getElem hlt⟩
   obtain ⟨Ck, hck⟩ : ∃ Ck, ch[k]? = some Ck := ⟨_, List.getElem?_eq_getElem (by omega)⟩
   have hym := List.mem_of_getElem? hye
   have hCk := (h7 k Ck y hck hye).later hh HB.out
   obtain ⟨gb, cur, rfl, hg1, hg2, hgb, hgc⟩ : ∃ gb cur, A' = some ⟨gb, 0, none⟩ ∧ lo ≤ gb ∧ gb < hi ∧ w.heap[gb]? = some (.cells cur 63 (0, 0)) ∧ ∀ (i : Nat) C, ch[i]? = some C → cur[i]? = some (.pointer (some ⟨C, 0, none⟩)) := by
    rcases h6 with h6 | h6
    ·rw [h6] at hck; simp at hck
    ·exact h6
   have hpc : wo.cell? ⟨gb, k, none⟩ = some (.pointer (some ⟨Ck, 0, none⟩)) := by
    rw [cell_blk (below_blk HB.out hgb) k]
    exact hgc k Ck hck
   have hye := hI hye
   have x0 : wo.cell? ⟨w.heap.size, 0, none⟩ = some (.string g.name) := (cell_blk HX.out 0).trans rfl
   have x1 : wo.cell? ⟨w.heap.size, 1, none⟩ = some (.bool g.absent) := (cell_blk HX.out 1).trans rfl
   have x2 : wo.cell? ⟨w.heap.size, 2, none⟩ = some (.int .i64 (momS g.has g.st)) := (cell_blk HX.out 2).trans rfl
   have x3 : wo.cell? ⟨w.heap.size, 3, none⟩ = some (.int .i32 0) := (cell_blk HX.out 3).trans rfl
   have x4 : wo.cell? ⟨w.heap.size, 4, none⟩ = some (.string (momL g.has)) := (cell_blk HX.out 4).trans rfl
   have x5 : wo.cell? ⟨w.heap.size, 5, none⟩ = some (.int .i64 0) := (cell_blk HX.out 5).trans rfl
   have x6 : wo.cell? ⟨w.heap.size, 6, none⟩ = some (.int .i64 (momS g.hasEnd g.en)) := (cell_blk HX.out 6).trans rfl
   have x7 : wo.cell? ⟨w.heap.size, 7, none⟩ = some (.int .i32 0) := (cell_blk HX.out 7).trans rfl
   have x8 : wo.cell? ⟨w.heap.size, 8, none⟩ = some (.string (momL g.hasEnd)) := (cell_blk HX.out 8).trans rfl
   have x9 : wo.cell? ⟨w.heap.size, 9, none⟩ = some (.int .i64 0) := (cell_blk HX.out 9).trans rfl
   have x10 : wo.cell? ⟨w.heap.size, 10, none⟩ = some (.slice A g.props.length c) := (cell_blk HX.out 10).trans rfl
   have x11 : wo.cell? ⟨w.heap.size, 11, none⟩ = some (.slice B g.comps.length c2) := (cell_blk HX.out 11).trans rfl
   go_wp2_with fail
   refine (HI.out y hym Ck wo HB.out hCk).mono ?_
   rintro _ w5 ⟨rfl, hb⟩
   have HB := hI (HB.out.trans (hb.mono HB.out.size))
   have HX := hI (below_blk hb HX.out)
   have HR := hI (Kd.R_below HR.out hb)
   have hsz : w.heap.size + 1 ≤ w5.heap.size := lt_blk HX.out
   clear hb hpc hgb hCk x0 x1 x2 x3 x4 x5 x6 x7 x8 x9 x10 x11
   cases hv : mV g y with
   | false =>
    have HA2 : Hid (ms.isEmpty = !((x.f2.take (k + 1)).any (mV g))) := hI (by rw [take_snoc' _ _ _ hye.out, List.any_append, HA.out]; simp [hv])
    go_wp2
    exact ⟨⟨k + 1, ms, by omega, by go_num, HB, HX, HR, by omega, HA2⟩, by simp [RowKit.intOf]; omega⟩
   | true =>
    have HA2 : Hid ((ms ++ [Ck]).isEmpty = !((x.f2.take (k + 1)).any (mV g))) := hI (by rw [take_snoc' _ _ _ hye.out, List.any_append]; simp [hv])
    have hlen : (ms.length + 1) * 8 ≤ 140737488355328 := by omega
    go_wp2_with ((with_reducible refine gate_builtin (b := .append) (xs := #[.tmp 30, .tmp 32]) rfl ?_); at_builtin; refine Kd.R_append kPt (w0 := w5) (w.heap.size + 1) rfl (.tmp 30) (.tmp 32) 108 63 (.pointer none) 8 rfl Tryz.underlying108 info_pc rfl (by decide) (by decide) _ ms Ck [.pointer (some ⟨Ck, 0, none⟩)] (fun _ => True) (fun _ => False) rfl rfl rfl (fun _ h => h.elim) (fun _ _ => trivial) HR.out (Below.refl _ _) hsz hlen ?_)
    intro v1 w7 hR7 hB7 hg7 hat7
    have HB := hI (HB.out.trans (hB7.mono (by omega)))
    have HX := hI ((hB7.block w.heap.size (by omega)).trans HX.out)
    have HR := hI hR7
    clear hB7 hR7 hg7 hat7
    go_wp2
    exact ⟨⟨k + 1, ms ++ [Ck], by omega, by go_num, HB, HX, HR, by simp; omega, HA2⟩, by simp [RowKit.intOf]; omega⟩
  ·obtain rfl : k = x.f2.length := by omega
   obtain ⟨An, cn, hvn, _⟩ := Kd.R_reads HR.out
   subst hvn
   have hA := HA.out
   rw [List.take_length] at hA
   have x1 : wo.cell? ⟨w.heap.size, 1, none⟩ = some (.bool g.absent) := (cell_blk HX.out 1).trans rfl
   cases hms2 : ms with
   | nil =>
    subst hms2
    have hF : Hid ((x.f2.any (mV g) || g.absent) = g.absent) := hI (by have : x.f2.any (mV g) = false := by { cases h9 : x.f2.any (mV g) <;> simp [h9] at hA ⊢ }; rw [this, Bool.false_or])
    clear HR HA hA
    go_wp2
    exact bodyPost_ret (v := .tuple #[.bool (g.absent), .nilIface]) (by simp [results, Tryz.results111, go_sem]) rfl ⟨by rw [hF.out], HB.out⟩
   | cons m ms' =>
    subst hms2
    have hF : Hid ((x.f2.any (mV g) || g.absent) = true) := hI (by have : x.f2.any (mV g) = true := by { cases h9 : x.f2.any (mV g) <;> simp [h9] at hA ⊢ }; rw [this, Bool.true_or])
    have hne : ¬ ((m :: ms').length : Int) = 0 := by simp; omega
    clear HR HA hA
    go_wp2
    exact bodyPost_ret (v := .tuple #[.bool (true), .nilIface]) (by simp [results, Tryz.results111, go_sem]) rfl ⟨by rw [hF.out], HB.out⟩
theorem at_oCo {w : World} {A : Option Addr} {n : Nat} {xs : List KCo} (h : oCo.C w A n xs) (k : Nat) (x : KCo) (hx : xs[k]? = some x) :
  ∃ ad B c B2 c2, A = some ad ∧ oPr.C w B x.props.length x.props ∧ oCo.C w B2 x.comps.length x.comps ∧ w.cell? (ad.add (k * 12)) = some (.string x.name) ∧ w.cell? (fa ad (k * 12) 1) = some (.bool x.absent) ∧
   w.cell? (fa ad (k * 12) 2) = some (.int .i64 (momS x.has x.st)) ∧ w.cell? (fa ad (k * 12) 3) = some (.int .i32 0) ∧ w.cell? (fa ad (k * 12) 4) = some (.string (momL x.has)) ∧ w.cell? (fa ad (k * 12) 5) = some (.int .i64 0) ∧
   w.cell? (fa ad (k * 12) 6) = some (.int .i64 (momS x.hasEnd x.en)) ∧ w.cell? (fa ad (k * 12) 7) = some (.int .i32 0) ∧ w.cell? (fa ad (k * 12) 8) = some (.string (momL x.hasEnd)) ∧ w.cell? (fa ad (k * 12) 9) = some (.int .i64 0) ∧
   w.cell? (fa ad (k * 12) 10) = some (.slice B x.props.length c) ∧ w.cell? (fa ad (k * 12) 11) = some (.slice B2 x.comps.length c2) := by
 obtain ⟨ad, cc, e, hK, hc0⟩ := atN h k x hx
 have hc : ∀ j u, cc[j]? = some u → w.cell? (ad.add (k * 12 + j)) = some u := hc0
 obtain ⟨B, c, B2, c2, rfl, hl, hr, hl2, hr2⟩ := oCo_open hK
 have hd : ∀ j u, 0 < j → ([.string x.name, .bool x.absent] ++ (momC x.has x.st ++ (momC x.hasEnd x.en ++ [.slice B x.props.length c, .slice B2 x.comps.length c2])))[j]? = some u → w.cell? (fa ad (k * 12) j) = some u := fun j u h0 hu => by
  unfold fa; rw [← add_field _ _ j h0]; exact hc j u hu
 exact ⟨ad, B, c, B2, c2, e, hr, hr2, hc 0 _ rfl, hd 1 _ (by omega) rfl, hd 2 _ (by omega) rfl, hd 3 _ (by omega) rfl, hd 4 _ (by omega) rfl, hd 5 _ (by omega) rfl, hd 6 _ (by omega) rfl, hd 7 _ (by omega) rfl, hd 8 _ (by omega) rfl, hd 9 _ (by omega) rfl, hd 10 _ (by omega) rfl, hd 11 _ (by omega) rfl⟩
theorem at_oPr {w : World} {A : Option Addr} {n : Nat} {xs : List KPr} (h : oPr.C w A n xs) (k : Nat) (x : KPr) (hx : xs[k]? = some x) :
  ∃ ad p B c, A = some ad ∧ TmAt w p x.text ∧ oPa.C w B x.params.length x.params ∧ w.cell? (ad.add (k * 12)) = some (.string x.name) ∧ w.cell? (fa ad (k * 12) 1) = some (.bool x.absent) ∧
   w.cell? (fa ad (k * 12) 2) = some (.int .i64 (momS x.has x.st)) ∧ w.cell? (fa ad (k * 12) 3) = some (.int .i32 0) ∧ w.cell? (fa ad (k * 12) 4) = some (.string (momL x.has)) ∧ w.cell? (fa ad (k * 12) 5) = some (.int .i64 0) ∧
   w.cell? (fa ad (k * 12) 6) = some (.int .i64 (momS x.hasEnd x.en)) ∧ w.cell? (fa ad (k * 12) 7) = some (.int .i32 0) ∧ w.cell? (fa ad (k * 12) 8) = some (.string (momL x.hasEnd)) ∧ w.cell? (fa ad (k * 12) 9) = some (.int .i64 0) ∧
   w.cell? (fa ad (k * 12) 10) = some (.pointer p) ∧ w.cell? (fa ad (k * 12) 11) = some (.slice B x.params.length c) := by
 obtain ⟨ad, cc, e, hK, hc0⟩ := atN h k x hx
 have hc : ∀ j u, cc[j]? = some u → w.cell? (ad.add (k * 12 + j)) = some u := hc0
 obtain ⟨p, B, c, rfl, hp, hl, hr⟩ := oPr_open hK
 have hd : ∀ j u, 0 < j → ([.string x.name, .bool x.absent] ++ (momC x.has x.st ++ (momC x.hasEnd x.en ++ [.pointer p, .slice B x.params.length c])))[j]? = some u → w.cell? (fa ad (k * 12) j) = some u := fun j u h0 hu => by
  unfold fa; rw [← add_field _ _ j h0]; exact hc j u hu
 exact ⟨ad, p, B, c, e, TmAt_of hp, hr, hc 0 _ rfl, hd 1 _ (by omega) rfl, hd 2 _ (by omega) rfl, hd 3 _ (by omega) rfl, hd 4 _ (by omega) rfl, hd 5 _ (by omega) rfl, hd 6 _ (by omega) rfl, hd 7 _ (by omega) rfl, hd 8 _ (by omega) rfl, hd 9 _ (by omega) rfl, hd 10 _ (by omega) rfl, hd 11 _ (by omega) rfl⟩
theorem all_take_snoc {α : Type} (l : List α) (p : α → Bool) (k : Nat) (q : α) (h : l[k]? = some q) : (l.take (k + 1)).all p = ((l.take k).all p && p q) := by
 rw [take_snoc' _ _ _ h, List.all_append]
 simp
theorem all_false {α : Type} (l : List α) (p : α → Bool) (k : Nat) (q : α) (h : l[k]? = some q) (hf : p q = false) : l.all p = false := by
 rw [List.all_eq_false]
 exact ⟨q, List.mem_of_getElem? h, by simp [hf]⟩
theorem match_step (f : ByteArray → Option ByteArray) (fc : KCo) (hKO : KOk fc) (hKG : KGr fc)
  (ih : ∀ g ∈ fc.comps, ∀ (A B : Option Addr) (c c2 C lo hi : Nat) (x : S36) (w : World), oPr.C w A g.props.length g.props → oCo.C w B g.comps.length g.comps → CompIn w lo hi C x → hi ≤ w.heap.size → AllC okC x → Dv w f → Gl w → (x.f0 = g.name → CompOk f g x) →
   Calls Tryz.prog 70 #[.agg (oCs g A B c c2), .pointer (some ⟨C, 0, none⟩)] w fun e w' => e = .returned (.tuple #[.bool (mV g x), .nilIface]) ∧ Below w.heap.size w w')
  (A B : Option Addr) (c c2 C lo hi : Nat) (x : S36) (w : World) (hp : oPr.C w A fc.props.length fc.props) (hk : oCo.C w B fc.comps.length fc.comps) (hC : CompIn w lo hi C x) (hh : hi ≤ w.heap.size) (hO : AllC okC x) (hD : Dv w f) (hG : Gl w) (hM : x.f0 = fc.name → CompOk f fc x) :
  Calls Tryz.prog 70 #[.agg (oCs fc A B c c2), .pointer (some ⟨C, 0, none⟩)] w fun e w' => e = .returned (.tuple #[.bool (mV fc x), .nilIface]) ∧ Below w.heap.size w w' := by
 obtain ⟨P0, A', c', ch, gs, h1, h2, h3, -, -, -, -⟩ := hC.open_
 have hl1 := hp.2.1
 have hl2 := hk.2.1
 obtain ⟨a, ha⟩ : ∃ a, momS fc.has fc.st = a := ⟨_, rfl⟩
 obtain ⟨l, hl⟩ : ∃ a, momL fc.has = a := ⟨_, rfl⟩
 obtain ⟨z, hz⟩ : ∃ a, momS fc.hasEnd fc.en = a := ⟨_, rfl⟩
 obtain ⟨l2, hl2'⟩ : ∃ a, momL fc.hasEnd = a := ⟨_, rfl⟩
 show Calls Tryz.prog 70 #[.agg #[.string fc.name, .bool fc.absent, .int .i64 (momS fc.has fc.st), .int .i32 0, .string (momL fc.has), .int .i64 0, .int .i64 (momS fc.hasEnd fc.en), .int .i32 0, .string (momL fc.hasEnd), .int .i64 0, .slice A fc.props.length c, .slice B fc.comps.length c2], .pointer (some ⟨C, 0, none⟩)] w fun e w' => e = .returned (.tuple #[.bool (mV fc x), .nilIface]) ∧ Below w.heap.size w w'
 rw [ha, hl, hz, hl2']
 have HA := hI (And.intro ha (And.intro hl (And.intro hz hl2')))
 have HI := hI ih
 clear ha hl hz hl2' ih
 go_enter Tryz.func70, Tryz.ntmps70
 go_wp2_with fail
 have hX := new_blk w (.cells #[.string fc.name, .bool fc.absent, .int .i64 a, .int .i32 0, .string l, .int .i64 0, .int .i64 z, .int .i32 0, .string l2, .int .i64 0, .slice A fc.props.length c, .slice B fc.comps.length c2] 91)
 have hb := below_alloc (Below.refl w.heap.size w) (.cells #[.string fc.name, .bool fc.absent, .int .i64 a, .int .i32 0, .string l, .int .i64 0, .int .i64 z, .int .i32 0, .string l2, .int .i64 0, .slice A fc.props.length c, .slice B fc.comps.length c2] 91)
 generalize hw1 : w.alloc _ = wk at hX hb ⊢
 clear hw1
 have x0 : wk.cell? ⟨w.heap.size, 0, none⟩ = some (.string fc.name) := (cell_blk hX 0).trans rfl
 have k0 : wk.cell? ⟨C, 0, none⟩ = some (.string x.f0) := (cell_blk (below_blk hb h3) 0).trans rfl
 have HX := hI hX
 have HB := hI hb
 have HC := hI hC
 have HD := hI hD
 have HG := hI hG
 have HP := hI hp
 have HK := hI hk
 clear hX hb hC hD hG hp hk
 by_cases hn : x.f0 = fc.name
 ·have hd : decide (x.f0 = fc.name) = true := decide_eq_true hn
  go_quiet (fail)
  generalize hwd : World.drewN wk nq = wd
  have hbk : Below wk.heap.size wk wd := (by rw [← hwd]; exact below_drewN (Below.refl _ _) _)
  clear hwd x0 k0
  have HX := hI (below_blk hbk HX.out)
  have HB := hI (HB.out.trans (hbk.mono HB.out.size))
  clear hbk
  have hCO := hM hn
  have hF0 : Hid (mV fc x = (timeV fc.has fc.hasEnd fc.st fc.en x && fc.comps.all (fun g => kidV g x.f2) && fc.props.all fun p => propV p x.f1)) := hI (by unfold mV; rw [if_pos hn, compV_eq])
  obtain ⟨hTO, hPO, hAb, hCk⟩ : TimeOk f fc x ∧ (∀ p ∈ fc.props, PropOk f p x.f1) ∧ (∀ g ∈ fc.comps, g.absent = true → ∀ k ∈ x.f2, k.f0 ≠ g.name) ∧ (∀ g ∈ fc.comps, g.absent = false → ∀ k ∈ x.f2, k.f0 = g.name → CompOk f g k) := by
   cases hCO with | mk _ _ a b c d => exact ⟨a, b, c, d⟩
  have HPO := hI hPO
  have HCk := hI (And.intro hAb hCk)
  clear hM hCO hPO hAb hCk hd
  have y2 : ∀ o, (wd.alloc o).cell? ⟨w.heap.size, 2, none⟩ = some (.int .i64 a) := fun o => pw_cell_below (below_alloc (Below.refl _ _) o) ((cell_blk HX.out 2).trans rfl)
  have y3 : ∀ o, (wd.alloc o).cell? ⟨w.heap.size, 3, none⟩ = some (.int .i32 0) := fun o => pw_cell_below (below_alloc (Below.refl _ _) o) ((cell_blk HX.out 3).trans rfl)
  have y4 : ∀ o, (wd.alloc o).cell? ⟨w.heap.size, 4, none⟩ = some (.string l) := fun o => pw_cell_below (below_alloc (Below.refl _ _) o) ((cell_blk HX.out 4).trans rfl)
  have y5 : ∀ o, (wd.alloc o).cell? ⟨w.heap.size, 5, none⟩ = some (.int .i64 0) := fun o => pw_cell_below (below_alloc (Below.refl _ _) o) ((cell_blk HX.out 5).trans rfl)
  have y6 : ∀ o, (wd.alloc o).cell? ⟨w.heap.size, 6, none⟩ = some (.int .i64 z) := fun o => pw_cell_below (below_alloc (Below.refl _ _) o) ((cell_blk HX.out 6).trans rfl)
  have y7 : ∀ o, (wd.alloc o).cell? ⟨w.heap.size, 7, none⟩ = some (.int .i32 0) := fun o => pw_cell_below (below_alloc (Below.refl _ _) o) ((cell_blk HX.out 7).trans rfl)
  have y8 : ∀ o, (wd.alloc o).cell? ⟨w.heap.size, 8, none⟩ = some (.string l2) := fun o => pw_cell_below (below_alloc (Below.refl _ _) o) ((cell_blk HX.out 8).trans rfl)
  have y9 : ∀ o, (wd.alloc o).cell? ⟨w.heap.size, 9, none⟩ = some (.int .i64 0) := fun o => pw_cell_below (below_alloc (Below.refl _ _) o) ((cell_blk HX.out 9).trans rfl)
  obtain ⟨ha, hl, hz, hl2'⟩ := HA.out
  have hr : ∀ o : Obj, Below w.heap.size w (wd.alloc o) := fun o => HB.out.alloc HB.out.size o
  have hx : ∀ o : Obj, (wd.alloc o).heap[w.heap.size]? = _ := fun o => old_blk HX.out o
  by_cases hs : fc.has = true
  ·obtain ⟨ht1, ht2, ht3, ht4⟩ := hTO hs
   have hstb : 0 ≤ fc.st := by cases hKO with | mk _ a b c d e f g => exact b.1
   have ha' : a ≠ 0 := by rw [← ha, hs]; show fc.st + 62135596800 ≠ 0; omega
   have hV : timeV fc.has fc.hasEnd fc.st fc.en x = evR a z (tmS (some (spanV x).1)) (tmS (some (spanV x).2)) := by unfold timeV; rw [if_pos hs, ha, hz]; rfl
   have hF0 : Hid (mV fc x = (evR a z (tmS (some (spanV x).1)) (tmS (some (spanV x).2)) && fc.comps.all (fun g => kidV g x.f2) && fc.props.all fun p => propV p x.f1)) := hI (by rw [hF0.out, hV])
   have HT := hI (And.intro ht1 (And.intro ht2 (And.intro ht3 ht4)))
   clear ha hl hz hl2' HA ht1 ht2 ht3 ht4 hV hTO hstb
   have hda : decide (a = 0) = false := decide_eq_false ha'
   go_wp2_with fail
   have hB1 := hr (.cells #[.int .i64 0, .int .i32 0, .string { data := #[] }, .int .i64 0] 70)
   have hX1 := hx (.cells #[.int .i64 0, .int .i32 0, .string { data := #[] }, .int .i64 0] 70)
   obtain ⟨ht1, ht2, ht3, ht4⟩ := HT.out
   refine (compTime_event _ C lo hi x a 0 z 0 l l2 (HC.out.later hh hB1) (Nat.le_trans hh hB1.size) ht2 (by rw [ht1]; rfl) f _ _ (HD.out.below hB1) (HG.out.below hB1 HG.out.size) ht3 ht4).mono ?_
   rintro _ wt ⟨rfl, hb⟩
   have HX := hI (below_blk hb hX1)
   have HB := hI (hB1.trans (hb.mono hB1.size))
   clear hb hB1 hX1 ht1 ht2 ht3 ht4 HT hda ha' hr hx
   clear y2 y3 y4 y5 y6 y7 y8 y9
   cases hv : evR a z (tmS (some (spanV x).1)) (tmS (some (spanV x).2)) with
   | false =>
    have HF : Hid (mV fc x = false) := hI (by rw [hF0.out, hv]; rfl)
    go_wp2
    exact bodyPost_ret (v := .tuple #[.bool (false), .nilIface]) (by simp [results, Tryz.results70, go_sem]) rfl ⟨by rw [HF.out], HB.out⟩
   | true =>
    have HF : Hid (mV fc x = (fc.comps.all (fun g => kidV g x.f2) && fc.props.all fun p => propV p x.f1)) := hI (by rw [hF0.out, hv, Bool.true_and])
    have x11 : wt.cell? ⟨w.heap.size, 11, none⟩ = some (.slice B fc.comps.length c2) := (cell_blk HX.out 11).trans rfl
    clear hF0 hv hs hn
    go_wp2_with fail
    clear x11
    go_loopw [47] (fun i wr => ∃ k : Nat, k ≤ fc.comps.length ∧ i = .int .i64 k ∧ Hid (Below w.heap.size w wr) ∧ Hid (Below wt.heap.size wt wr) ∧ Hid ((fc.comps.take k).all (fun g => kidV g x.f2) = true)) (fun i _ => fc.comps.length - (RowKit.intOf i).toNat)
    case atStart => exact ⟨0, Nat.zero_le _, rfl, HB, hI (Below.refl _ _), hI rfl⟩
    case round =>
     clear HB
     obtain ⟨k, hk, rfl, HB, HT, HA⟩ := hrel
     obtain ⟨wo, rfl⟩ : ∃ wo : World, wo = wr := ⟨_, rfl⟩
     by_cases hlt : k < fc.comps.length
     ·obtain ⟨g, hge⟩ : ∃ g, fc.comps[k]? = some g := ⟨_, List.getElem?_eq_getElem hlt⟩
      have hgm := List.mem_of_getElem? hge
      obtain ⟨ad, GA, gc, GB, gc2, rfl, hr1, hr2, g0, g1, g2, g3, g4, g5, g6, g7, g8, g9, g10, g11⟩ := at_oCo (Kd.C_below HK.out HB.out) k g hge
      have hge := hI hge
      go_wp2_with fail
      have hb1 := below_alloc (Below.refl wo.heap.size wo) (.cells (oCs g GA GB gc gc2) 91 (0, 0))
      have HB1 := HB.out.trans (hb1.mono HB.out.size)
      refine (compFilter _ g GA GB gc gc2 C lo hi x (HC.out.later hh HB1) (Nat.le_trans hh HB1.size) hO.here (fun y hy Cy w' hbw hCy => HI.out g hgm GA GB gc gc2 Cy lo hi y w' (Kd.C_below hr1 (hb1.trans (hbw.mono hb1.size))) (Kd.C_below hr2 (hb1.trans (hbw.mono hb1.size))) hCy (Nat.le_trans hh (HB1.trans (hbw.mono HB1.size)).size) (hO.kid hy) (HD.out.below (HB1.trans (hbw.mono HB1.size))) (HG.out.below (HB1.trans (hbw.mono HB1.size)) HG.out.size) (fun hyn => by
       cases hga : g.absent
       ·exact HCk.out.2 g hgm hga y hy hyn
       ·exact absurd hyn (HCk.out.1 g hgm hga y hy)))).mono ?_
      rintro _ w5 ⟨rfl, hb⟩
      have hb := hb1.trans (hb.mono hb1.size)
      have HB := hI (HB.out.trans (hb.mono HB.out.size))
      have HT := hI (HT.out.trans (hb.mono HT.out.size))
      clear hb hb1 HB1 g0 g1 g2 g3 g4 g5 g6 g7 g8 g9 g10 g11
      cases hv : kidV g x.f2 with
      | false =>
       have HF : Hid (mV fc x = false) := hI (by rw [HF.out, all_false fc.comps _ k g hge.out hv]; rfl)
       go_wp2
       exact bodyPost_ret (v := .tuple #[.bool (false), .nilIface]) (by simp [results, Tryz.results70, go_sem]) rfl ⟨by rw [HF.out], HB.out⟩
      | true =>
       have HA : Hid ((fc.comps.take (k + 1)).all (fun g => kidV g x.f2) = true) := hI (by rw [all_take_snoc fc.comps _ k g hge.out, HA.out, hv]; rfl)
       go_wp2
       exact ⟨⟨k + 1, by omega, by go_num, HB, HT, HA⟩, by simp [RowKit.intOf]; omega⟩
     ·obtain rfl : k = fc.comps.length := by omega
      have hA := HA.out
      rw [List.take_length] at hA
      have HF : Hid (mV fc x = fc.props.all fun p => propV p x.f1) := hI (by rw [HF.out, hA, Bool.true_and])
      have HX := hI (below_blk HT.out HX.out)
      have x10 : wo.cell? ⟨w.heap.size, 10, none⟩ = some (.slice A fc.props.length c) := (cell_blk HX.out 10).trans rfl
      clear hA HA HT
      go_wp2_with fail
      go_loopw [66] (fun i wr => ∃ k : Nat, k ≤ fc.props.length ∧ i = .int .i64 k ∧ Hid (Below w.heap.size w wr) ∧ Hid ((fc.props.take k).all (fun p => propV p x.f1) = true)) (fun i _ => fc.props.length - (RowKit.intOf i).toNat)
      case atStart => exact ⟨0, Nat.zero_le _, rfl, HB, hI rfl⟩
      case round =>
       clear HB x10
       obtain ⟨k, hk, rfl, HB, HA⟩ := hrel
       obtain ⟨wi, rfl⟩ : ∃ wi : World, wi = wr := ⟨_, rfl⟩
       by_cases hlt : k < fc.props.length
       ·obtain ⟨p, hpe⟩ : ∃ p, fc.props[k]? = some p := ⟨_, List.getElem?_eq_getElem hlt⟩
        have hpm := List.mem_of_getElem? hpe
        obtain ⟨ad, tq, V, cv, rfl, htx, hr1, g0, g1, g2, g3, g4, g5, g6, g7, g8, g9, g10, g11⟩ := at_oPr (Kd.C_below HP.out HB.out) k p hpe
        have hpo : KpOk p := by cases hKO with | mk _ a b c d e f g => exact f p hpm
        have hpg : KpGr p := by cases hKG with | mk _ a b => exact a p hpm
        have hpe := hI hpe
        go_wp2_with fail
        have hb1 := below_alloc (Below.refl wi.heap.size wi) (.cells (oP p tq (.slice V p.params.length cv)) 168 (0, 0))
        have HB1 := HB.out.trans (hb1.mono HB.out.size)
        refine (propFilter _ p tq V cv C lo hi x f (htx.below hb1) (Kd.C_below hr1 hb1) (HC.out.later hh HB1) (Nat.le_trans hh HB1.size) (HD.out.below HB1) (HG.out.below HB1 HG.out.size) hpo hpg hO.here (HPO.out p hpm)).mono ?_
        rintro _ w5 ⟨rfl, hb⟩
        have hb := hb1.trans (hb.mono hb1.size)
        have HB := hI (HB.out.trans (hb.mono HB.out.size))
        clear hb hb1 HB1 g0 g1 g2 g3 g4 g5 g6 g7 g8 g9 g10 g11
        cases hv : propV p x.f1 with
        | false =>
         have HF : Hid (mV fc x = false) := hI (by rw [HF.out, all_false fc.props _ k p hpe.out hv])
         go_wp2
         exact bodyPost_ret (v := .tuple #[.bool (false), .nilIface]) (by simp [results, Tryz.results70, go_sem]) rfl ⟨by rw [HF.out], HB.out⟩
        | true =>
         have HA : Hid ((fc.props.take (k + 1)).all (fun p => propV p x.f1) = true) := hI (by rw [all_take_snoc fc.props _ k p hpe.out, HA.out, hv]; rfl)
         go_wp2
         exact ⟨⟨k + 1, by omega, by go_num, HB, HA⟩, by simp [RowKit.intOf]; omega⟩
       ·obtain rfl : k = fc.props.length := by omega
        have hA := HA.out
        rw [List.take_length] at hA
        have HF : Hid (mV fc x = true) := hI (by rw [HF.out, hA])
        clear hA HA
        go_wp2
        exact bodyPost_ret (v := .tuple #[.bool (true), .nilIface]) (by simp [results, Tryz.results70, go_sem]) rfl ⟨by rw [HF.out], HB.out⟩
  ·have hs' : fc.has = false := by simpa using hs
   have ha2 : a = 0 := by rw [← ha, hs']; rfl
   have hl3 : l = { data := #[] } := by rw [← hl, hs']; rfl
   have HF : Hid (mV fc x = (fc.comps.all (fun g => kidV g x.f2) && fc.props.all fun p => propV p x.f1)) := hI (by rw [hF0.out]; unfold timeV; rw [hs', if_neg (by simp), Bool.true_and])
   have x11 : ∀ o, (wd.alloc o).cell? ⟨w.heap.size, 11, none⟩ = some (.slice B fc.comps.length c2) := fun o => (cell_blk (hx o) 11).trans rfl
   clear ha hl hz hl2' HA hs hs' hTO hF0 hn
   subst ha2 hl3
   go_wp2_with fail
   have HX := hI (hx (.cells #[.int .i64 0, .int .i32 0, .string { data := #[] }, .int .i64 0] 70))
   have HB := hI (hr (.cells #[.int .i64 0, .int .i32 0, .string { data := #[] }, .int .i64 0] 70))
   generalize World.alloc wd _ = wt at HX HB ⊢
   clear x11 hx hr y2 y3 y4 y5 y6 y7 y8 y9
   go_loopw [47] (fun i wr => ∃ k : Nat, k ≤ fc.comps.length ∧ i = .int .i64 k ∧ Hid (Below w.heap.size w wr) ∧ Hid (Below wt.heap.size wt wr) ∧ Hid ((fc.comps.take k).all (fun g => kidV g x.f2) = true)) (fun i _ => fc.comps.length - (RowKit.intOf i).toNat)
   case atStart => exact ⟨0, Nat.zero_le _, rfl, HB, hI (Below.refl _ _), hI rfl⟩
   case round =>
    clear HB
    obtain ⟨k, hk, rfl, HB, HT, HA⟩ := hrel
    obtain ⟨wo, rfl⟩ : ∃ wo : World, wo = wr := ⟨_, rfl⟩
    by_cases hlt : k < fc.comps.length
    ·obtain ⟨g, hge⟩ : ∃ g, fc.comps[k]? = some g := ⟨_, List.getElem?_eq_getElem hlt⟩
     have hgm := List.mem_of_getElem? hge
     obtain ⟨ad, GA, gc, GB, gc2, rfl, hr1, hr2, g0, g1, g2, g3, g4, g5, g6, g7, g8, g9, g10, g11⟩ := at_oCo (Kd.C_below HK.out HB.out) k g hge
     have hge := hI hge
     go_wp2_with fail
     have hb1 := below_alloc (Below.refl wo.heap.size wo) (.cells (oCs g GA GB gc gc2) 91 (0, 0))
     have HB1 := HB.out.trans (hb1.mono HB.out.size)
     refine (compFilter _ g GA GB gc gc2 C lo hi x (HC.out.later hh HB1) (Nat.le_trans hh HB1.size) hO.here (fun y hy Cy w' hbw hCy => HI.out g hgm GA GB gc gc2 Cy lo hi y w' (Kd.C_below hr1 (hb1.trans (hbw.mono hb1.size))) (Kd.C_below hr2 (hb1.trans (hbw.mono hb1.size))) hCy (Nat.le_trans hh (HB1.trans (hbw.mono HB1.size)).size) (hO.kid hy) (HD.out.below (HB1.trans (hbw.mono HB1.size))) (HG.out.below (HB1.trans (hbw.mono HB1.size)) HG.out.size) (fun hyn => by
      cases hga : g.absent
      ·exact HCk.out.2 g hgm hga y hy hyn
      ·exact absurd hyn (HCk.out.1 g hgm hga y hy)))).mono ?_
     rintro _ w5 ⟨rfl, hb⟩
     have hb := hb1.trans (hb.mono hb1.size)
     have HB := hI (HB.out.trans (hb.mono HB.out.size))
     have HT := hI (HT.out.trans (hb.mono HT.out.size))
     clear hb hb1 HB1 g0 g1 g2 g3 g4 g5 g6 g7 g8 g9 g10 g11
     cases hv : kidV g x.f2 with
     | false =>
      have HF : Hid (mV fc x = false) := hI (by rw [HF.out, all_false fc.comps _ k g hge.out hv]; rfl)
      go_wp2
      exact bodyPost_ret (v := .tuple #[.bool (false), .nilIface]) (by simp [results, Tryz.results70, go_sem]) rfl ⟨by rw [HF.out], HB.out⟩
     | true =>
      have HA : Hid ((fc.comps.take (k + 1)).all (fun g => kidV g x.f2) = true) := hI (by rw [all_take_snoc fc.comps _ k g hge.out, HA.out, hv]; rfl)
      go_wp2
      exact ⟨⟨k + 1, by omega, by go_num, HB, HT, HA⟩, by simp [RowKit.intOf]; omega⟩
    ·obtain rfl : k = fc.comps.length := by omega
     have hA := HA.out
     rw [List.take_length] at hA
     have HF : Hid (mV fc x = fc.props.all fun p => propV p x.f1) := hI (by rw [HF.out, hA, Bool.true_and])
     have HX := hI (below_blk HT.out HX.out)
     have x10 : wo.cell? ⟨w.heap.size, 10, none⟩ = some (.slice A fc.props.length c) := (cell_blk HX.out 10).trans rfl
     clear hA HA HT
     go_wp2_with fail
     go_loopw [66] (fun i wr => ∃ k : Nat, k ≤ fc.props.length ∧ i = .int .i64 k ∧ Hid (Below w.heap.size w wr) ∧ Hid ((fc.props.take k).all (fun p => propV p x.f1) = true)) (fun i _ => fc.props.length - (RowKit.intOf i).toNat)
     case atStart => exact ⟨0, Nat.zero_le _, rfl, HB, hI rfl⟩
     case round =>
      clear HB x10
      obtain ⟨k, hk, rfl, HB, HA⟩ := hrel
      obtain ⟨wi, rfl⟩ : ∃ wi : World, wi = wr := ⟨_, rfl⟩
      by_cases hlt : k < fc.props.length
      ·obtain ⟨p, hpe⟩ : ∃ p, fc.props[k]? = some p := ⟨_, List.getElem?_eq_getElem hlt⟩
       have hpm := List.mem_of_getElem? hpe
       obtain ⟨ad, tq, V, cv, rfl, htx, hr1, g0, g1, g2, g3, g4, g5, g6, g7, g8, g9, g10, g11⟩ := at_oPr (Kd.C_below HP.out HB.out) k p hpe
       have hpo : KpOk p := by cases hKO with | mk _ a b c d e f g => exact f p hpm
       have hpg : KpGr p := by cases hKG with | mk _ a b => exact a p hpm
       have hpe := hI hpe
       go_wp2_with fail
       have hb1 := below_alloc (Below.refl wi.heap.size wi) (.cells (oP p tq (.slice V p.params.length cv)) 168 (0, 0))
       have HB1 := HB.out.trans (hb1.mono HB.out.size)
       refine (propFilter _ p tq V cv C lo hi x f (htx.below hb1) (Kd.C_below hr1 hb1) (HC.out.later hh HB1) (Nat.le_trans hh HB1.size) (HD.out.below HB1) (HG.out.below HB1 HG.out.size) hpo hpg hO.here (HPO.out p hpm)).mono ?_
       rintro _ w5 ⟨rfl, hb⟩
       have hb := hb1.trans (hb.mono hb1.size)
       have HB := hI (HB.out.trans (hb.mono HB.out.size))
       clear hb hb1 HB1 g0 g1 g2 g3 g4 g5 g6 g7 g8 g9 g10 g11
       cases hv : propV p x.f1 with
       | false =>
        have HF : Hid (mV fc x = false) := hI (by rw [HF.out, all_false fc.props _ k p hpe.out hv])
        go_wp2
        exact bodyPost_ret (v := .tuple #[.bool (false), .nilIface]) (by simp [results, Tryz.results70, go_sem]) rfl ⟨by rw [HF.out], HB.out⟩
       | true =>
        have HA : Hid ((fc.props.take (k + 1)).all (fun p => propV p x.f1) = true) := hI (by rw [all_take_snoc fc.props _ k p hpe.out, HA.out, hv]; rfl)
        go_wp2
        exact ⟨⟨k + 1, by omega, by go_num, HB, HA⟩, by simp [RowKit.intOf]; omega⟩
      ·obtain rfl : k = fc.props.length := by omega
       have hA := HA.out
       rw [List.take_length] at hA
       have HF : Hid (mV fc x = true) := hI (by rw [HF.out, hA])
       clear hA HA
       go_wp2
       exact bodyPost_ret (v := .tuple #[.bool (true), .nilIface]) (by simp [results, Tryz.results70, go_sem]) rfl ⟨by rw [HF.out], HB.out⟩
 ·have hd : (x.f0.toList == fc.name.toList) = false := tl_ne hn
  go_quiet (fail)
  generalize hwd : World.drewN wk nq = wd
  have hbk : Below wk.heap.size wk wd := (by rw [← hwd]; exact below_drewN (Below.refl _ _) _)
  clear hwd x0 k0
  have HX := hI (below_blk hbk HX.out)
  have HB := hI (HB.out.trans (hbk.mono HB.out.size))
  have x1 : wd.cell? ⟨w.heap.size, 1, none⟩ = some (.bool fc.absent) := (cell_blk HX.out 1).trans rfl
  have HF : Hid (mV fc x = fc.absent) := hI (by unfold mV; rw [if_neg hn])
  clear hbk hd hn hM
  go_wp2
  exact bodyPost_ret (v := .tuple #[.bool (fc.absent), .nilIface]) (by simp [results, Tryz.results70, go_sem]) rfl ⟨by rw [HF.out], HB.out⟩
theorem match_ (f : ByteArray → Option ByteArray) (N : Nat) : ∀ (fc : KCo), SizeOf.sizeOf fc ≤ N → KOk fc → KGr fc → ∀ (A B : Option Addr) (c c2 C lo hi : Nat) (x : S36) (w : World), oPr.C w A fc.props.length fc.props → oCo.C w B fc.comps.length fc.comps → CompIn w lo hi C x → hi ≤ w.heap.size → AllC okC x → Dv w f → Gl w → (x.f0 = fc.name → CompOk f fc x) →
  Calls Tryz.prog 70 #[.agg (oCs fc A B c c2), .pointer (some ⟨C, 0, none⟩)] w fun e w' => e = .returned (.tuple #[.bool (mV fc x), .nilIface]) ∧ Below w.heap.size w w' := by
 induction N with
 | zero => intro fc h; cases fc; simp at h
 | succ N ih =>
  intro fc hN hO hGr A B c c2 C lo hi x w h1 h2 h3 h4 h5 h6 h7 h8
  exact match_step f fc hO hGr (fun g hg => ih g (by have := comp_lt fc g hg; omega) (by cases hO with | mk _ a b c d e f g' => exact g' g hg) (by cases hGr with | mk _ a b => exact b g hg)) A B c c2 C lo hi x w h1 h2 h3 h4 h5 h6 h7 h8
theorem Match_ (f : ByteArray → Option ByteArray) (fc : KCo) (hKO : KOk fc) (hKG : KGr fc) (A B : Option Addr) (c c2 C K O lo hi : Nat) (x : S36) (w : World) (hp : oPr.C w A fc.props.length fc.props) (hk : oCo.C w B fc.comps.length fc.comps) (hC : CompIn w lo hi C x) (hh : hi ≤ w.heap.size) (hO : AllC okC x) (hD : Dv w f) (hG : Gl w) (hM : x.f0 = fc.name → CompOk f fc x)
  (o7 : w.cell? ⟨O, 7, none⟩ = some (.pointer (some ⟨K, 0, none⟩))) (k0 : w.cell? ⟨K, 0, none⟩ = some (.pointer (some ⟨C, 0, none⟩))) :
  Calls Tryz.prog 38 #[.agg (oCs fc A B c c2), .pointer (some ⟨O, 0, none⟩)] w fun e w' => e = .returned (.tuple #[.bool (mV fc x), .nilIface]) ∧ Below w.heap.size w w' := by
 have a7 : ∀ o, (w.alloc o).cell? ⟨O, 7, none⟩ = _ := fun o => pw_cell_below (below_alloc (Below.refl _ _) o) o7
 have b0 : ∀ o, (w.alloc o).cell? ⟨K, 0, none⟩ = _ := fun o => pw_cell_below (below_alloc (Below.refl _ _) o) k0
 have HH := hI (And.intro hp (And.intro hk (And.intro hC (And.intro hD hG))))
 obtain ⟨mv, hmv⟩ : ∃ b, mV fc x = b := ⟨_, rfl⟩
 have hc : ∀ w2, Below w.heap.size w w2 → Calls Tryz.prog 70 #[.agg (oCs fc A B c c2), .pointer (some ⟨C, 0, none⟩)] w2 fun e w' => e = .returned (.tuple #[.bool mv, .nilIface]) ∧ Below w2.heap.size w2 w' := fun w2 hb => by
  rw [← hmv]
  exact match_ f _ fc (Nat.le_refl _) hKO hKG A B c c2 C lo hi x w2 (Kd.C_below hp hb) (Kd.C_below hk hb) (hC.later hh hb) (Nat.le_trans hh hb.size) hO (hD.below hb) (hG.below hb hG.size) hM
 rw [hmv]
 have HCc := hI hc
 clear hc hp hk hC hD hG hM o7 k0 HH hmv
 go_enter Tryz.func38, Tryz.ntmps38
 go_wp2_with fail
 have e7 := a7 (.cells (oCs fc A B c c2) 91 (0, 0))
 have e0 := b0 (.cells (oCs fc A B c c2) 91 (0, 0))
 have hX := new_blk w (.cells (oCs fc A B c c2) 91 (0, 0))
 have hb := below_alloc (Below.refl w.heap.size w) (.cells (oCs fc A B c c2) 91 (0, 0))
 generalize hw1 : w.alloc _ = w1 at e7 e0 hX hb ⊢
 clear hw1 a7 b0
 have g7 : ∀ d os, (grow (redrawn w1 d) os).cell? ⟨O, 7, none⟩ = _ := fun d os => pw_cell_below (below_regrown _ _ _) e7
 have g0 : ∀ d os, (grow (redrawn w1 d) os).cell? ⟨K, 0, none⟩ = _ := fun d os => pw_cell_below (below_regrown _ _ _) e0
 have x0 : ∀ d os, (grow (redrawn w1 d) os).cell? ⟨w.heap.size, 0, none⟩ = some (.string fc.name) := fun d os => pw_cell_below (below_regrown _ _ _) ((cell_blk hX 0).trans rfl)
 have x1 : ∀ d os, (grow (redrawn w1 d) os).cell? ⟨w.heap.size, 1, none⟩ = some (.bool fc.absent) := fun d os => pw_cell_below (below_regrown _ _ _) ((cell_blk hX 1).trans rfl)
 have x2 : ∀ d os, (grow (redrawn w1 d) os).cell? ⟨w.heap.size, 2, none⟩ = some (.int .i64 (momS fc.has fc.st)) := fun d os => pw_cell_below (below_regrown _ _ _) ((cell_blk hX 2).trans rfl)
 have x3 : ∀ d os, (grow (redrawn w1 d) os).cell? ⟨w.heap.size, 3, none⟩ = some (.int .i32 0) := fun d os => pw_cell_below (below_regrown _ _ _) ((cell_blk hX 3).trans rfl)
 have x4 : ∀ d os, (grow (redrawn w1 d) os).cell? ⟨w.heap.size, 4, none⟩ = some (.string (momL fc.has)) := fun d os => pw_cell_below (below_regrown _ _ _) ((cell_blk hX 4).trans rfl)
 have x5 : ∀ d os, (grow (redrawn w1 d) os).cell? ⟨w.heap.size, 5, none⟩ = some (.int .i64 0) := fun d os => pw_cell_below (below_regrown _ _ _) ((cell_blk hX 5).trans rfl)
 have x6 : ∀ d os, (grow (redrawn w1 d) os).cell? ⟨w.heap.size, 6, none⟩ = some (.int .i64 (momS fc.hasEnd fc.en)) := fun d os => pw_cell_below (below_regrown _ _ _) ((cell_blk hX 6).trans rfl)
 have x7 : ∀ d os, (grow (redrawn w1 d) os).cell? ⟨w.heap.size, 7, none⟩ = some (.int .i32 0) := fun d os => pw_cell_below (below_regrown _ _ _) ((cell_blk hX 7).trans rfl)
 have x8 : ∀ d os, (grow (redrawn w1 d) os).cell? ⟨w.heap.size, 8, none⟩ = some (.string (momL fc.hasEnd)) := fun d os => pw_cell_below (below_regrown _ _ _) ((cell_blk hX 8).trans rfl)
 have x9 : ∀ d os, (grow (redrawn w1 d) os).cell? ⟨w.heap.size, 9, none⟩ = some (.int .i64 0) := fun d os => pw_cell_below (below_regrown _ _ _) ((cell_blk hX 9).trans rfl)
 have x10 : ∀ d os, (grow (redrawn w1 d) os).cell? ⟨w.heap.size, 10, none⟩ = some (.slice A fc.props.length c) := fun d os => pw_cell_below (below_regrown _ _ _) ((cell_blk hX 10).trans rfl)
 have x11 : ∀ d os, (grow (redrawn w1 d) os).cell? ⟨w.heap.size, 11, none⟩ = some (.slice B fc.comps.length c2) := fun d os => pw_cell_below (below_regrown _ _ _) ((cell_blk hX 11).trans rfl)
 have z0 : w1.cell? ⟨w.heap.size, 0, none⟩ = some (.string fc.name) := (cell_blk hX 0).trans rfl
 have z1 : w1.cell? ⟨w.heap.size, 1, none⟩ = some (.bool fc.absent) := (cell_blk hX 1).trans rfl
 have z2 : w1.cell? ⟨w.heap.size, 2, none⟩ = some (.int .i64 (momS fc.has fc.st)) := (cell_blk hX 2).trans rfl
 have z3 : w1.cell? ⟨w.heap.size, 3, none⟩ = some (.int .i32 0) := (cell_blk hX 3).trans rfl
 have z4 : w1.cell? ⟨w.heap.size, 4, none⟩ = some (.string (momL fc.has)) := (cell_blk hX 4).trans rfl
 have z5 : w1.cell? ⟨w.heap.size, 5, none⟩ = some (.int .i64 0) := (cell_blk hX 5).trans rfl
 have z6 : w1.cell? ⟨w.heap.size, 6, none⟩ = some (.int .i64 (momS fc.hasEnd fc.en)) := (cell_blk hX 6).trans rfl
 have z7 : w1.cell? ⟨w.heap.size, 7, none⟩ = some (.int .i32 0) := (cell_blk hX 7).trans rfl
 have z8 : w1.cell? ⟨w.heap.size, 8, none⟩ = some (.string (momL fc.hasEnd)) := (cell_blk hX 8).trans rfl
 have z9 : w1.cell? ⟨w.heap.size, 9, none⟩ = some (.int .i64 0) := (cell_blk hX 9).trans rfl
 have z10 : w1.cell? ⟨w.heap.size, 10, none⟩ = some (.slice A fc.props.length c) := (cell_blk hX 10).trans rfl
 have z11 : w1.cell? ⟨w.heap.size, 11, none⟩ = some (.slice B fc.comps.length c2) := (cell_blk hX 11).trans rfl
 have HB := hI hb
 clear hb hX
 refine wp_region_quiet_below (by kernel_rfl) (by kernel_rfl) ?_; (repeat (first | go_big_quiet_step ((go_at_call 70; exact Calls.regrown_of (HCc.out _ (HB.out.trans ((below_regrown _ _ _).mono HB.out.size))))) | quiet_step ((go_at_call 70; exact Calls.regrown_of (HCc.out _ (HB.out.trans ((below_regrown _ _ _).mono HB.out.size))))))); refine wpQuiet_nil ?_; intro wq hw'; obtain ⟨⟨dq, osq⟩, hw''⟩ := hw'; have hbq := below_quiet hw''; clear hw''
 have HB := hI (HB.out.trans (hbq.mono HB.out.size))
 clear hbq
 go_wp2
 exact bodyPost_ret (v := .tuple #[.bool mv, .nilIface]) (by simp [results, Tryz.results38, go_sem]) rfl ⟨rfl, HB.out⟩
theorem kMatch (f : ByteArray → Option ByteArray) (fc : KCo) (x : S36) (A B D E : Option Addr) (c c2 c3 c4 : Nat) (w0 w : World) (hb0 : Below w0.heap.size w0 w) (hKO : KOk fc) (hKG : KGr fc) (hO : AllC okC x) (hp : kPr.C w0 A fc.props.length fc.props) (hk : kCo.C w0 B fc.comps.length fc.comps) (hp2 : k75.C w0 D x.f1.length x.f1) (hk2 : k36.C w0 E x.f2.length x.f2)
  (hD : Dv w f) (hG : Gl w) (hM : x.f0 = fc.name → CompOk f fc x) :
  Calls Tryz.prog 16 #[.agg #[.string fc.name, .bool fc.absent, .bool fc.has, .bool fc.hasEnd, .int .i64 fc.st, .int .i64 fc.en, .slice A fc.props.length c, .slice B fc.comps.length c2], .agg #[.string x.f0, .slice D x.f1.length c3, .slice E x.f2.length c4]] w fun e w' => e = .returned (.tuple #[.bool (mV fc x), .bool true]) ∧ Below w.heap.size w w' := by
 obtain ⟨mv, hmv⟩ : ∃ b, mV fc x = b := ⟨_, rfl⟩
 have hc : ∀ (w2 : World) (A2 B2 : Option Addr) (d d2 C K O lo hi : Nat), Below w.heap.size w w2 → oPr.C w2 A2 fc.props.length fc.props → oCo.C w2 B2 fc.comps.length fc.comps → CompIn w2 lo hi C x → hi ≤ w2.heap.size → w2.cell? ⟨O, 7, none⟩ = some (.pointer (some ⟨K, 0, none⟩)) → w2.cell? ⟨K, 0, none⟩ = some (.pointer (some ⟨C, 0, none⟩)) →
   Calls Tryz.prog 38 #[.agg (oCs fc A2 B2 d d2), .pointer (some ⟨O, 0, none⟩)] w2 fun e w' => e = .returned (.tuple #[.bool mv, .nilIface]) ∧ Below w2.heap.size w2 w' := fun w2 A2 B2 d d2 C K O lo hi hb h1 h2 h3 h4 h5 h6 => by
  rw [← hmv]
  exact Match_ f fc hKO hKG A2 B2 d d2 C K O lo hi x w2 h1 h2 h3 h4 hO (hD.below hb) (hG.below hb hG.size) hM h5 h6
 rw [hmv]
 have HCc := hI hc
 have HIn := hI (And.intro hp (And.intro hk (And.intro hp2 hk2)))
 clear hc hp hk hp2 hk2 hD hG hM hmv
 go_enter Tryz.func16, Tryz.ntmps16
 go_wp2_with fail
 have hX := old_blk (new_blk w (.cells #[.string fc.name, .bool fc.absent, .bool fc.has, .bool fc.hasEnd, .int .i64 fc.st, .int .i64 fc.en, .slice A fc.props.length c, .slice B fc.comps.length c2] 42)) (.cells #[.string x.f0, .slice D x.f1.length c3, .slice E x.f2.length c4] 36)
 have hY := new_blk (w.alloc (.cells #[.string fc.name, .bool fc.absent, .bool fc.has, .bool fc.hasEnd, .int .i64 fc.st, .int .i64 fc.en, .slice A fc.props.length c, .slice B fc.comps.length c2] 42)) (.cells #[.string x.f0, .slice D x.f1.length c3, .slice E x.f2.length c4] 36)
 have hb : Below w.heap.size w ((w.alloc (.cells #[.string fc.name, .bool fc.absent, .bool fc.has, .bool fc.hasEnd, .int .i64 fc.st, .int .i64 fc.en, .slice A fc.props.length c, .slice B fc.comps.length c2] 42)).alloc (.cells #[.string x.f0, .slice D x.f1.length c3, .slice E x.f2.length c4] 36)) := ((Below.refl _ _).alloc (Nat.le_refl _) _).alloc (by simp) _
 simp only [World.size_alloc] at hY
 generalize hw1 : World.alloc _ _ = w1 at hX hY hb ⊢
 clear hw1
 have q0 := (cell_blk hX 0).trans rfl
 have q1 := (cell_blk hX 1).trans rfl
 have q2 := (cell_blk hX 2).trans rfl
 have q3 := (cell_blk hX 3).trans rfl
 have q4 := (cell_blk hX 4).trans rfl
 have q5 := (cell_blk hX 5).trans rfl
 have q6 := (cell_blk hX 6).trans rfl
 have q7 := (cell_blk hX 7).trans rfl
 have p0 := (cell_blk hY 0).trans rfl
 have p1 := (cell_blk hY 1).trans rfl
 have p2 := (cell_blk hY 2).trans rfl
 have hb1 : Below w.heap.size w w1.drew := hb.drew
 have hX1 : w1.drew.heap[w.heap.size]? = _ := hX
 have hY1 : w1.drew.heap[w.heap.size + 1]? = _ := hY
 refine start_ (n := 14) (S := fun W => W.cell? ⟨w.heap.size, 0, none⟩ = some (.string fc.name) ∧ W.cell? ⟨w.heap.size, 1, none⟩ = some (.bool fc.absent) ∧ W.cell? ⟨w.heap.size, 2, none⟩ = some (.bool fc.has) ∧ W.cell? ⟨w.heap.size, 3, none⟩ = some (.bool fc.hasEnd) ∧ W.cell? ⟨w.heap.size, 4, none⟩ = some (.int .i64 fc.st) ∧ W.cell? ⟨w.heap.size, 5, none⟩ = some (.int .i64 fc.en) ∧ W.cell? ⟨w.heap.size, 6, none⟩ = some (.slice A fc.props.length c) ∧ W.cell? ⟨w.heap.size, 7, none⟩ = some (.slice B fc.comps.length c2) ∧ W.cell? ⟨w.heap.size + 1, 0, none⟩ = some (.string x.f0) ∧ W.cell? ⟨w.heap.size + 1, 1, none⟩ = some (.slice D x.f1.length c3) ∧ W.cell? ⟨w.heap.size + 1, 2, none⟩ = some (.slice E x.f2.length c4)) (ds := [8]) (bM 14 0) (by kernel_rfl) rfl (by kernel_rfl) ⟨q0, q1, q2, q3, q4, q5, q6, q7, p0, p1, p2⟩ (fun hHeld => ?_)
 generalize w1.drew = w2 at hb1 hX1 hY1 hHeld ⊢
 have HX := hI hX1
 have HY := hI hY1
 have HB := hI hb1
 clear hb hb1 hX hY hX1 hY1 q0 q1 q2 q3 q4 q5 q6 q7 p0 p1 p2
 refine tA 0 14 1 (some 8) rfl rfl (by kernel_rfl) rfl (fun _ ⟨s0, s1, s2, s3, s4, s5, s6, s7, s8, s9, s10⟩ => by go_simp; with_reducible rfl) hHeld (by simp only [sW]; rfl) ?_
 refine tA 2 14 5 (some 10) rfl rfl (by kernel_rfl) rfl (fun _ ⟨s0, s1, s2, s3, s4, s5, s6, s7, s8, s9, s10⟩ => by go_simp; with_reducible rfl) hHeld (by simp only [sW]; rfl) ?_
 refine oN 1 14 7 (some 9) rfl rfl (by kernel_rfl) (by decide) (fun K hK => ?_)
 refine goes_ Tryz.func39 (by kernel_rfl) rfl #[.agg #[.string fc.name, .bool fc.absent, .bool fc.has, .bool fc.hasEnd, .int .i64 fc.st, .int .i64 fc.en, .slice A fc.props.length c, .slice B fc.comps.length c2]] (by rfl) rfl rfl (by (try simp only [List.map_toArray, List.map_cons, List.map_nil]); first | done | rfl | (simp only [List.length_drop, List.length_take]; rfl)) ?_; refine (filterOf _ fc (Nat.le_refl _) hKO A B c c2 w0 _ (hb0.trans (HB.out.mono hb0.size)) HIn.out.1 HIn.out.2.1).mono ?_
 rintro e w3 ⟨v, v2, rfl, hv, hv2, hb⟩
 refine ⟨_, rfl, ?_⟩
 obtain ⟨A2, d, rfl, _, hrv⟩ := Kd.R_reads hv
 obtain ⟨B2, d2, rfl, _, hrv2⟩ := Kd.R_reads hv2
 have HV := hI (And.intro hrv hrv2)
 have HX := hI (below_blk hb HX.out)
 have HY := hI (below_blk hb HY.out)
 have HB := hI (HB.out.trans (hb.mono HB.out.size))
 clear hb hv hv2 hrv hrv2
 refine hK.out _ _ ⟨(cell_blk HX.out 0).trans rfl, (cell_blk HX.out 1).trans rfl, (cell_blk HX.out 2).trans rfl, (cell_blk HX.out 3).trans rfl, (cell_blk HX.out 4).trans rfl, (cell_blk HX.out 5).trans rfl, (cell_blk HX.out 6).trans rfl, (cell_blk HX.out 7).trans rfl, (cell_blk HY.out 0).trans rfl, (cell_blk HY.out 1).trans rfl, (cell_blk HY.out 2).trans rfl⟩ (fun hHeld => ?_)
 clear hK K
 refine norm_ (by show Act.put _ (some 9) _ = _; simp only [sW]; rfl) ?_
 refine oN 3 14 15 (some 11) rfl rfl (by kernel_rfl) (by decide) (fun K hK => ?_)
 refine goes_ Tryz.func24 (by kernel_rfl) rfl #[.agg #[.string x.f0, .slice D x.f1.length c3, .slice E x.f2.length c4]] (by rfl) rfl rfl (by (try simp only [List.map_toArray, List.map_cons, List.map_nil]); first | done | rfl | (simp only [List.length_drop, List.length_take]; rfl)) ?_; refine (icalOf _ x (Nat.le_refl _) hO D E c3 c4 w0 _ (hb0.trans (HB.out.mono hb0.size)) HIn.out.2.2.1 HIn.out.2.2.2).mono ?_
 rintro e w4 ⟨C, rfl, hC, hb⟩
 refine ⟨_, rfl, ?_⟩
 have HC := hI (And.intro hC (Nat.le_refl w4.heap.size))
 have HX := hI (below_blk hb HX.out)
 have HY := hI (below_blk hb HY.out)
 have HV := hI (And.intro (Kd.C_below HV.out.1 hb) (Kd.C_below HV.out.2 hb))
 have HB := hI (HB.out.trans (hb.mono HB.out.size))
 clear hb hC
 refine hK.out _ _ ⟨(cell_blk HX.out 0).trans rfl, (cell_blk HX.out 1).trans rfl, (cell_blk HX.out 2).trans rfl, (cell_blk HX.out 3).trans rfl, (cell_blk HX.out 4).trans rfl, (cell_blk HX.out 5).trans rfl, (cell_blk HX.out 6).trans rfl, (cell_blk HX.out 7).trans rfl, (cell_blk HY.out 0).trans rfl, (cell_blk HY.out 1).trans rfl, (cell_blk HY.out 2).trans rfl⟩ (fun hHeld => ?_)
 clear hK K
 refine norm_ (by show Act.put _ (some 11) _ = _; simp only [sW]; rfl) ?_
 refine pU 4 14 31 (some 12) rfl rfl (by kernel_rfl) rfl (fun _ => by go_simp; with_reducible rfl) (by simp only [sW]; rfl) ?_
 refine oN 5 14 63 (some 13) rfl rfl (by kernel_rfl) (by decide) (fun K hK => ?_)
 refine value_ (v := ?_) (w1 := ?_) (by rfl) rfl ?_ ?_; rotate_left 2; (go_simp; first | rfl | (constructor <;> rfl))
 have hb := below_alloc (Below.refl w4.heap.size w4) (.cells #[.pointer (some ⟨C, 0, none⟩)] 96)
 have hz := new_blk w4 (.cells #[.pointer (some ⟨C, 0, none⟩)] 96)
 generalize hwa : w4.alloc (.cells #[.pointer (some ⟨C, 0, none⟩)] 96) = w5 at hz hb ⊢
 have HK := hI hz
 have HX := hI (below_blk hb HX.out)
 have HY := hI (below_blk hb HY.out)
 have HV := hI (And.intro (Kd.C_below HV.out.1 hb) (Kd.C_below HV.out.2 hb))
 have HC := hI (And.intro (HC.out.1.later HC.out.2 hb) (Nat.le_trans HC.out.2 hb.size))
 have HB := hI (HB.out.trans (hb.mono HB.out.size))
 clear hwa hb hz
 refine hK.out _ _ ⟨(cell_blk HX.out 0).trans rfl, (cell_blk HX.out 1).trans rfl, (cell_blk HX.out 2).trans rfl, (cell_blk HX.out 3).trans rfl, (cell_blk HX.out 4).trans rfl, (cell_blk HX.out 5).trans rfl, (cell_blk HX.out 6).trans rfl, (cell_blk HX.out 7).trans rfl, (cell_blk HY.out 0).trans rfl, (cell_blk HY.out 1).trans rfl, (cell_blk HY.out 2).trans rfl⟩ (fun hHeld => ?_)
 clear hK K
 refine norm_ (by show Act.put _ (some 13) _ = _; simp only [sW]; rfl) ?_
 refine pU 6 14 127 (some 14) rfl rfl (by kernel_rfl) rfl (fun _ => by go_simp; with_reducible rfl) (by simp only [sW]; rfl) ?_
 refine oN 7 14 255 (some 15) rfl rfl (by kernel_rfl) (by decide) (fun K hK => ?_)
 refine value_ (v := ?_) (w1 := ?_) (by rfl) rfl ?_ ?_; rotate_left 2; (go_simp; first | rfl | (constructor <;> rfl))
 have hb := below_alloc (Below.refl w5.heap.size w5) (.cells #[.string { data := #[] }, .int .i64 0, .int .i32 0, .string { data := #[] }, .int .i64 0, .int .i64 0, .string { data := #[] }, .pointer (some ⟨w4.heap.size, 0, none⟩)] 98)
 have hz := new_blk w5 (.cells #[.string { data := #[] }, .int .i64 0, .int .i32 0, .string { data := #[] }, .int .i64 0, .int .i64 0, .string { data := #[] }, .pointer (some ⟨w4.heap.size, 0, none⟩)] 98)
 generalize hwa : w5.alloc (.cells #[.string { data := #[] }, .int .i64 0, .int .i32 0, .string { data := #[] }, .int .i64 0, .int .i64 0, .string { data := #[] }, .pointer (some ⟨w4.heap.size, 0, none⟩)] 98) = w6 at hz hb ⊢
 have HL := hI hz
 have HK := hI (below_blk hb HK.out)
 have HX := hI (below_blk hb HX.out)
 have HY := hI (below_blk hb HY.out)
 have HV := hI (And.intro (Kd.C_below HV.out.1 hb) (Kd.C_below HV.out.2 hb))
 have HC := hI (And.intro (HC.out.1.later HC.out.2 hb) (Nat.le_trans HC.out.2 hb.size))
 have HB := hI (HB.out.trans (hb.mono HB.out.size))
 clear hwa hb hz
 refine hK.out _ _ ⟨(cell_blk HX.out 0).trans rfl, (cell_blk HX.out 1).trans rfl, (cell_blk HX.out 2).trans rfl, (cell_blk HX.out 3).trans rfl, (cell_blk HX.out 4).trans rfl, (cell_blk HX.out 5).trans rfl, (cell_blk HX.out 6).trans rfl, (cell_blk HX.out 7).trans rfl, (cell_blk HY.out 0).trans rfl, (cell_blk HY.out 1).trans rfl, (cell_blk HY.out 2).trans rfl⟩ (fun hHeld => ?_)
 clear hK K
 refine norm_ (by show Act.put _ (some 15) _ = _; simp only [sW]; rfl) ?_
 refine lA 8 14 511 (some 16) rfl rfl (by kernel_rfl) (by decide) (fun K hK => ?_)
 refine goes_ Tryz.func38 (by kernel_rfl) rfl #[.agg (oCs fc A2 B2 d d2), .pointer (some ⟨w5.heap.size, 0, none⟩)] (by rfl) rfl rfl (by (try simp only [List.map_toArray, List.map_cons, List.map_nil]); first | done | rfl | (simp only [List.length_drop, List.length_take]; rfl)) ?_; refine (HCc.out _ A2 B2 d d2 C w4.heap.size w5.heap.size _ _ HB.out HV.out.1 HV.out.2 HC.out.1 HC.out.2 ((cell_blk HL.out 7).trans rfl) ((cell_blk HK.out 0).trans rfl)).mono ?_
 rintro e w7 ⟨rfl, hb⟩
 refine ⟨_, rfl, ?_⟩
 have HB := hI (HB.out.trans (hb.mono HB.out.size))
 clear hb
 refine hK.out _ _ ?_
 clear hK K
 refine norm_ (by show Act.put _ (some 16) _ = _; simp only [sW]; rfl) ?_
 refine pU 9 14 1023 (some 7) rfl rfl (by kernel_rfl) rfl (fun _ => by go_simp; with_reducible rfl) (by simp only [sW]; rfl) ?_
 refine pU 10 14 2047 (some 17) rfl rfl (by kernel_rfl) rfl (fun _ => by go_simp; with_reducible rfl) (by simp only [sW]; rfl) ?_
 refine pU 11 14 4095 (some 18) rfl rfl (by kernel_rfl) rfl (fun _ => by go_simp; with_reducible rfl) (by simp only [sW]; rfl) ?_
 refine pU 12 14 8191 (some 4) rfl rfl (by kernel_rfl) rfl (fun _ => by go_simp; with_reducible rfl) (by simp only [sW]; rfl) ?_
 refine pU 13 14 16383 (some 6) rfl rfl (by kernel_rfl) rfl (fun _ => by go_simp; with_reducible rfl) (by simp only [sW]; rfl) ?_
 refine done_ (by kernel_rfl) ?_
 clear HX HY HC HK HL HV HIn HCc hHeld
 go_wp2_with fail
 go_quiet (fail)
 generalize hwd : World.drewN w7 nq = wd
 have hbk : Below w7.heap.size w7 wd := (by rw [← hwd]; exact below_drewN (Below.refl _ _) _)
 clear hwd
 have HB := hI (HB.out.trans (hbk.mono HB.out.size))
 clear hbk
 go_wp2
 exact bodyPost_ret (v := .tuple #[.bool mv, .bool true]) (by simp [results, Tryz.results16, go_sem]) rfl ⟨rfl, HB.out⟩
theorem fits11 (t : ByteArray) (n : Bool) (w : World) : Calls Tryz.prog 143 #[.agg #[.string t, .bool n]] w (AnyB w) := by
 go_enter Tryz.func143, Tryz.ntmps143
 go_wp2
 all_goals (go_ret; exact ⟨_, rfl, by (repeat (first | exact Below.refl _ _ | (refine below_drewN ?_ _) | (refine Below.trans ?_ ((below_regrown _ _ _).mono (by simp <;> omega))) | (refine Below.drew ?_) | (refine Below.alloc ?_ (by simp <;> omega) _) | (refine Below.setCell ?_ (by simp <;> omega) _) | assumption))⟩)
theorem fits10 (p : Option Addr) (x : KT) (w : World) (h : TxtAt w p x) : Calls Tryz.prog 99 #[.pointer p] w (AnyB w) := by
 cases x with
 | none =>
  obtain rfl : p = none := h
  go_enter Tryz.func99, Tryz.ntmps99
  go_wp2
  go_ret
  exact ⟨_, rfl, by (repeat (first | exact Below.refl _ _ | (refine below_drewN ?_ _) | (refine Below.trans ?_ ((below_regrown _ _ _).mono (by simp <;> omega))) | (refine Below.drew ?_) | (refine Below.alloc ?_ (by simp <;> omega) _) | (refine Below.setCell ?_ (by simp <;> omega) _) | assumption))⟩
 | some t =>
  obtain ⟨b, o, rfl, h1, h2⟩ := h
  go_enter Tryz.func99, Tryz.ntmps99
  go_wp2_with fail
  go_at_call 143
  refine (fits11 t.1 t.2 _).mono ?_
  rintro e w1 ⟨c, rfl, hb⟩
  cases c <;> go_wp2 <;> (go_ret; exact ⟨_, rfl, by ((repeat (first | (refine below_drewN ?_ _) | (refine Below.drew ?_) | (refine Below.setCell ?_ (by simp <;> omega) _) | (refine Below.alloc ?_ (by simp <;> omega) _))); refine Below.trans ?_ (Below.mono hb (by simp <;> omega)); (repeat (first | exact Below.refl _ _ | (refine below_drewN ?_ _) | (refine Below.trans ?_ ((below_regrown _ _ _).mono (by simp <;> omega))) | (refine Below.drew ?_) | (refine Below.alloc ?_ (by simp <;> omega) _) | (refine Below.setCell ?_ (by simp <;> omega) _) | assumption)))⟩)
theorem fits13 (x : KPa) (p : Option Addr) (w : World) (h : TxtAt w p x.text) : Calls Tryz.prog 144 #[.agg #[.string x.name, .bool x.absent, .pointer p]] w (AnyB w) := by
 go_enter Tryz.func144, Tryz.ntmps144
 go_wp2_with (first | (go_at_call 99; refine (fits10 p x.text _ (h.below (below_alloc (Below.refl _ _) _))).mono ?_; rintro e w1 ⟨c, rfl, hb⟩; cases c <;> go_wp2))
 ·go_ret
  exact ⟨_, rfl, by (repeat (first | exact Below.refl _ _ | (refine below_drewN ?_ _) | (refine Below.trans ?_ ((below_regrown _ _ _).mono (by simp <;> omega))) | (refine Below.drew ?_) | (refine Below.alloc ?_ (by simp <;> omega) _) | (refine Below.setCell ?_ (by simp <;> omega) _) | assumption))⟩
 all_goals (go_ret; exact ⟨_, rfl, by ((repeat (first | (refine below_drewN ?_ _) | (refine Below.drew ?_) | (refine Below.setCell ?_ (by simp <;> omega) _) | (refine Below.alloc ?_ (by simp <;> omega) _))); refine Below.trans ?_ (Below.mono hb (by simp <;> omega)); (repeat (first | exact Below.refl _ _ | (refine below_drewN ?_ _) | (refine Below.trans ?_ ((below_regrown _ _ _).mono (by simp <;> omega))) | (refine Below.drew ?_) | (refine Below.alloc ?_ (by simp <;> omega) _) | (refine Below.setCell ?_ (by simp <;> omega) _) | assumption)))⟩)
theorem fits12 (xs : List KPa) (A : Option Addr) (c : Nat) (w : World) (h : kPa.C w A xs.length xs) : Calls Tryz.prog 100 #[.slice A xs.length c] w (AnyB w) := by
 have hm := h.2.1
 go_enter Tryz.func100, Tryz.ntmps100
 go_wp2
 ·go_ret
  exact ⟨_, rfl, by (repeat (first | exact Below.refl _ _ | (refine below_drewN ?_ _) | (refine Below.trans ?_ ((below_regrown _ _ _).mono (by simp <;> omega))) | (refine Below.drew ?_) | (refine Below.alloc ?_ (by simp <;> omega) _) | (refine Below.setCell ?_ (by simp <;> omega) _) | assumption))⟩
 go_loopw [10] (fun i wr => ∃ k : Nat, k ≤ xs.length ∧ i = .int .i64 k ∧ Below w.heap.size w wr) (fun i _ => xs.length - (RowKit.intOf i).toNat)
 case atStart => exact ⟨0, Nat.zero_le _, rfl, Below.refl _ _⟩
 case round =>
  obtain ⟨k, hk, rfl, hB⟩ := hrel
  by_cases hlt : k < xs.length
  ·obtain ⟨ad, p, rfl, hp, g0, g1, g2⟩ := at_kPa (Kd.C_below h hB) k _ (List.getElem?_eq_getElem hlt)
   go_wp2_with fail
   refine (fits13 _ p _ (hp.below (below_alloc (Below.refl _ _) _))).mono ?_
   rintro e w1 ⟨b, rfl, hb⟩
   have hB1 : Below w.heap.size w w1 := below_step (below_alloc hB _) hb
   clear hb hp g0 g1 g2
   cases b
   ·go_wp2
    go_ret
    exact ⟨_, rfl, hB1⟩
   ·go_wp2
    go_roundw
    case rel => exact ⟨k + 1, by omega, by go_num, hB1⟩
    case measure => simp [RowKit.intOf]; omega
  ·go_wp2
   go_ret
   exact ⟨_, rfl, hB⟩
theorem fits9 (x : KPr) (p A : Option Addr) (c : Nat) (w : World) (h : TxtAt w p x.text) (h2 : kPa.C w A x.params.length x.params) :
  Calls Tryz.prog 62 #[.agg #[.string x.name, .bool x.absent, .bool x.has, .bool x.hasEnd, .int .i64 x.st, .int .i64 x.en, .pointer p, .slice A x.params.length c]] w (AnyB w) := by
 go_enter Tryz.func62, Tryz.ntmps62
 go_wp2_with fail
 ·go_ret
  exact ⟨_, rfl, by (repeat (first | exact Below.refl _ _ | (refine below_drewN ?_ _) | (refine Below.trans ?_ ((below_regrown _ _ _).mono (by simp <;> omega))) | (refine Below.drew ?_) | (refine Below.alloc ?_ (by simp <;> omega) _) | (refine Below.setCell ?_ (by simp <;> omega) _) | assumption))⟩
 refine (fits10 p x.text _ (h.below (below_alloc (Below.refl _ _) _))).mono ?_
 rintro e w1 ⟨b, rfl, hb⟩
 have hB1 : Below w.heap.size w w1 := by ((repeat (first | (refine below_drewN ?_ _) | (refine Below.drew ?_) | (refine Below.setCell ?_ (by simp <;> omega) _) | (refine Below.alloc ?_ (by simp <;> omega) _))); refine Below.trans ?_ (Below.mono hb (by simp <;> omega)); (repeat (first | exact Below.refl _ _ | (refine below_drewN ?_ _) | (refine Below.trans ?_ ((below_regrown _ _ _).mono (by simp <;> omega))) | (refine Below.drew ?_) | (refine Below.alloc ?_ (by simp <;> omega) _) | (refine Below.setCell ?_ (by simp <;> omega) _) | assumption)))
 have c7 : w1.cell? ⟨w.heap.size, 7, none⟩ = some (.slice A x.params.length c) := ((bcell hb).1 _ _ (by simp)).trans ((cell_blk (new_blk w _) 7).trans rfl)
 clear hb
 cases b
 ·go_wp2
  go_ret
  exact ⟨_, rfl, hB1⟩
 ·go_wp2_with fail
  refine (fits12 x.params A c _ (Kd.C_below h2 hB1)).mono ?_
  rintro e w2 ⟨b, rfl, hb⟩
  have hB2 : Below w.heap.size w w2 := hB1.trans (hb.mono hB1.size)
  clear hb
  cases b <;> go_wp2 <;> (go_ret; exact ⟨_, rfl, hB2⟩)
theorem fits8 (xs : List KPr) (A : Option Addr) (c : Nat) (w : World) (h : kPr.C w A xs.length xs) : Calls Tryz.prog 31 #[.slice A xs.length c] w (AnyB w) := by
 have hm := h.2.1
 go_enter Tryz.func31, Tryz.ntmps31
 go_wp2
 ·go_ret
  exact ⟨_, rfl, by (repeat (first | exact Below.refl _ _ | (refine below_drewN ?_ _) | (refine Below.trans ?_ ((below_regrown _ _ _).mono (by simp <;> omega))) | (refine Below.drew ?_) | (refine Below.alloc ?_ (by simp <;> omega) _) | (refine Below.setCell ?_ (by simp <;> omega) _) | assumption))⟩
 go_loopw [10] (fun i wr => ∃ k : Nat, k ≤ xs.length ∧ i = .int .i64 k ∧ Below w.heap.size w wr) (fun i _ => xs.length - (RowKit.intOf i).toNat)
 case atStart => exact ⟨0, Nat.zero_le _, rfl, Below.refl _ _⟩
 case round =>
  obtain ⟨k, hk, rfl, hB⟩ := hrel
  by_cases hlt : k < xs.length
  ·obtain ⟨ad, p, B, cc, rfl, hp, hl, hr, g0, g1, g2, g3, g4, g5, g6, g7⟩ := at_kPr (Kd.C_below h hB) k _ (List.getElem?_eq_getElem hlt)
   go_wp2_with fail
   refine (fits9 _ p B cc _ (hp.below (below_alloc (Below.refl _ _) _)) (Kd.C_below hr (below_alloc (Below.refl _ _) _))).mono ?_
   rintro e w1 ⟨b, rfl, hb⟩
   have hB1 : Below w.heap.size w w1 := below_step (below_alloc hB _) hb
   clear hb hp g0 g1 g2 g3 g4 g5 g6 g7
   cases b
   ·go_wp2
    go_ret
    exact ⟨_, rfl, hB1⟩
   ·go_wp2
    go_roundw
    case rel => exact ⟨k + 1, by omega, by go_num, hB1⟩
    case measure => simp [RowKit.intOf]; omega
  ·go_wp2
   go_ret
   exact ⟨_, rfl, hB⟩
theorem fits7 (x : KCo) (A B : Option Addr) (c c2 : Nat) (w : World) (h : kPr.C w A x.props.length x.props) (hx : x.comps.length ≤ 9223372036854775807) :
  Calls Tryz.prog 11 #[.agg #[.string x.name, .bool x.absent, .bool x.has, .bool x.hasEnd, .int .i64 x.st, .int .i64 x.en, .slice A x.props.length c, .slice B x.comps.length c2]] w (AnyB w) := by
 go_enter Tryz.func11, Tryz.ntmps11
 go_wp2_with fail
 ·go_ret
  exact ⟨_, rfl, by (repeat (first | exact Below.refl _ _ | (refine below_drewN ?_ _) | (refine Below.trans ?_ ((below_regrown _ _ _).mono (by simp <;> omega))) | (refine Below.drew ?_) | (refine Below.alloc ?_ (by simp <;> omega) _) | (refine Below.setCell ?_ (by simp <;> omega) _) | assumption))⟩
 refine (fits8 x.props A c _ (Kd.C_below h (below_alloc (Below.refl _ _) _))).mono ?_
 rintro e w1 ⟨b, rfl, hb⟩
 have hB1 : Below w.heap.size w w1 := by ((repeat (first | (refine below_drewN ?_ _) | (refine Below.drew ?_) | (refine Below.setCell ?_ (by simp <;> omega) _) | (refine Below.alloc ?_ (by simp <;> omega) _))); refine Below.trans ?_ (Below.mono hb (by simp <;> omega)); (repeat (first | exact Below.refl _ _ | (refine below_drewN ?_ _) | (refine Below.trans ?_ ((below_regrown _ _ _).mono (by simp <;> omega))) | (refine Below.drew ?_) | (refine Below.alloc ?_ (by simp <;> omega) _) | (refine Below.setCell ?_ (by simp <;> omega) _) | assumption)))
 have c7 : w1.cell? ⟨w.heap.size, 7, none⟩ = some (.slice B x.comps.length c2) := ((bcell hb).1 _ _ (by simp)).trans ((cell_blk (new_blk w _) 7).trans rfl)
 clear hb
 cases b
 ·go_wp2
  go_ret
  exact ⟨_, rfl, hB1⟩
 ·go_wp2
  all_goals (go_ret; exact ⟨_, rfl, hB1⟩)
end Go.Proofs.YtcllaplddebilaaGreatDoor

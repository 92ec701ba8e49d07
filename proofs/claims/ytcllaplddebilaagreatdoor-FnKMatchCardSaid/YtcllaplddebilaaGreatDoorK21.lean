/- laws.FnKMatch: a part of the proof: PropFilt. -/
import Derived.Test.YtcllaplddebilaaGreatDoorK16
set_option maxRecDepth 1000000
set_option maxHeartbeats 64000000
set_option linter.unusedVariables false
set_option linter.unusedSimpArgs false
namespace Go.Proofs.YtcllaplddebilaaGreatDoor
open Go.RowKit Go.Sort
attribute [local go_sem] cell?_grow frozen?_grow cell?_redrawn frozen?_redrawn size_redrawn size_grow ba_get ba_extract
attribute [local simp] size_redrawn
open Go.Lib Go.Proofs.YtcllaplddebilaaGreatDoorW.PrintWords Go.Proofs.YtcllaplddebilaaGreatDoorW.PrintLast Go.Proofs.YtcllaplddebilaaGreatDoorW.PrintMore PFnKMatch
theorem TmAt_of {w : World} {p : Option Addr} {x : KT} (h : TmAt0 w p x) : TmAt w p x := by
 cases x with
 | none => exact h
 | some t => exact h
theorem at_oPa {w : World} {A : Option Addr} {n : Nat} {xs : List KPa} (h : oPa.C w A n xs) (k : Nat) (x : KPa) (hx : xs[k]? = some x) :
  ∃ ad p, A = some ad ∧ TmAt w p x.text ∧ w.cell? (ad.add (k * 3)) = some (.string x.name) ∧ w.cell? (fa ad (k * 3) 1) = some (.bool x.absent) ∧ w.cell? (fa ad (k * 3) 2) = some (.pointer p) := by
 obtain ⟨ad, c, e, hK, hc0⟩ := atN h k x hx
 have hc : ∀ j u, c[j]? = some u → w.cell? (ad.add (k * 3 + j)) = some u := hc0
 obtain ⟨p, rfl, hp⟩ := oPa_open hK
 exact ⟨ad, p, e, TmAt_of hp, hc 0 _ rfl, by unfold fa; rw [← add_field _ _ 1 (by omega)]; exact hc 1 _ rfl, by unfold fa; rw [← add_field _ _ 2 (by omega)]; exact hc 2 _ rfl⟩
theorem paramGet_size {ps : List S151} {n : ByteArray} (h : ∀ q ∈ ps, okQ q) : (paramGet ps n).size ≤ 300 := by
 unfold paramGet lookP
 cases hl : (ps.filter fun q => decide (q.f0 = n)).flatMap (·.f1) with
 | nil => show 0 ≤ 300; omega
 | cons x xs =>
  have : x ∈ (ps.filter fun q => decide (q.f0 = n)).flatMap (·.f1) := by rw [hl]; exact List.mem_cons_self
  obtain ⟨q, hq, hx⟩ := List.mem_flatMap.1 this
  exact (h q (List.mem_filter.1 hq).1).2.2 x hx
theorem firstP_mem {ps : List S75} {n : ByteArray} {p : S75} (h : firstP ps n = some p) : p ∈ ps ∧ p.f0 = n := by
 unfold firstP at h
 exact ⟨List.mem_of_find?_eq_some h, by simpa using List.find?_some h⟩
theorem propFilter (w : World) (fp : KPr) (tq V : Option Addr) (cv C lo hi : Nat) (x : S36) (f : ByteArray → Option ByteArray) (hT : TmAt w tq fp.text) (hV : oPa.C w V fp.params.length fp.params) (hC : CompIn w lo hi C x) (hh : hi ≤ w.heap.size) (hD : Dv w f) (hG : Gl w)
  (hKp : KpOk fp) (hU : KpGr fp) (hO : okC x) (hP : PropOk f fp x.f1) :
  Calls Tryz.prog 112 #[.agg (oP fp tq (.slice V fp.params.length cv)), .pointer (some ⟨C, 0, none⟩)] w fun e w' => e = .returned (.tuple #[.bool (propV fp x.f1), .nilIface]) ∧ Below w.heap.size w w' := by
 obtain ⟨P0, A, c, ch, gs, h1, h2, h3, h4, -, -, -⟩ := hC.open_
 have hlv := hV.2.1
 obtain ⟨a, ha⟩ : ∃ a, momS fp.has fp.st = a := ⟨_, rfl⟩
 obtain ⟨l, hl⟩ : ∃ a, momL fp.has = a := ⟨_, rfl⟩
 obtain ⟨z, hz⟩ : ∃ a, momS fp.hasEnd fp.en = a := ⟨_, rfl⟩
 obtain ⟨l2, hl2⟩ : ∃ a, momL fp.hasEnd = a := ⟨_, rfl⟩
 show Calls Tryz.prog 112 #[.agg #[.string fp.name, .bool fp.absent, .int .i64 (momS fp.has fp.st), .int .i32 0, .string (momL fp.has), .int .i64 0, .int .i64 (momS fp.hasEnd fp.en), .int .i32 0, .string (momL fp.hasEnd), .int .i64 0, .pointer tq, .slice V fp.params.length cv], .pointer (some ⟨C, 0, none⟩)] w fun e w' => e = .returned (.tuple #[.bool (propV fp x.f1), .nilIface]) ∧ Below w.heap.size w w'
 rw [ha, hl, hz, hl2]
 have HA := hI (And.intro ha (And.intro hl (And.intro hz hl2)))
 clear ha hl hz hl2 hC
 go_enter Tryz.func112, Tryz.ntmps112
 go_wp2_with fail
 have hX := new_blk w (.cells #[.string fp.name, .bool fp.absent, .int .i64 a, .int .i32 0, .string l, .int .i64 0, .int .i64 z, .int .i32 0, .string l2, .int .i64 0, .pointer tq, .slice V fp.params.length cv] 168)
 have hb := below_alloc (Below.refl w.heap.size w) (.cells #[.string fp.name, .bool fp.absent, .int .i64 a, .int .i32 0, .string l, .int .i64 0, .int .i64 z, .int .i32 0, .string l2, .int .i64 0, .pointer tq, .slice V fp.params.length cv] 168)
 generalize hw1 : w.alloc _ = w1 at hX hb ⊢
 clear hw1
 have hb1 : Below w.heap.size w w1.drew := hb.drew
 have hX1 : w1.drew.heap[w.heap.size]? = _ := hX
 have q0 : w1.cell? ⟨C, 1, none⟩ = some (.map (some P0)) := (cell_blk (below_blk hb h3) 1).trans rfl
 have q1 := (cell_blk hX 0).trans rfl
 clear hb hX
 refine start_ (n := 8) (S := fun W => W.cell? ⟨C, 1, none⟩ = some (.map (some P0)) ∧ W.cell? ⟨w.heap.size, 0, none⟩ = some (.string fp.name)) (ds := [7]) (bM 8 0) (by kernel_rfl) rfl (by kernel_rfl) ⟨q0, q1⟩ (fun hHeld => ?_)
 generalize w1.drew = w2 at hb1 hX1 hHeld ⊢
 have HX := hI hX1
 have HB := hI hb1
 have HQ := hI (h4.later hh hb1)
 have HT := hI (hT.below hb1)
 have HV := hI (Kd.C_below hV hb1)
 have HD := hI (hD.below hb1)
 have HG := hI (hG.below hb1 hG.size)
 have hh2 := Nat.le_trans hh hb1.size
 have HC := hI (below_blk hb1 h3)
 clear hb1 hX1 q0 q1 hT hV hD hG h4 h3
 refine pU 0 8 1 (some 12) rfl rfl (by kernel_rfl) rfl (fun _ => by go_simp; with_reducible rfl) (by simp only [sW]; rfl) ?_
 refine pU 1 8 3 (some 13) rfl rfl (by kernel_rfl) rfl (fun _ => by go_simp; with_reducible rfl) (by simp only [sW]; rfl) ?_
 refine pU 2 8 7 (some 14) rfl rfl (by kernel_rfl) rfl (fun _ => by go_simp; with_reducible rfl) (by simp only [sW]; rfl) ?_
 refine tA 3 8 15 (some 15) rfl rfl (by kernel_rfl) rfl (fun _ ⟨s0, s1⟩ => by go_simp; with_reducible rfl) hHeld (by simp only [sW]; rfl) ?_
 refine pU 4 8 31 (some 16) rfl rfl (by kernel_rfl) rfl (fun _ => by go_simp; with_reducible rfl) (by simp only [sW]; rfl) ?_
 refine tA 5 8 63 (some 17) rfl rfl (by kernel_rfl) rfl (fun _ ⟨s0, s1⟩ => by go_simp; with_reducible rfl) hHeld (by simp only [sW]; rfl) ?_
 refine oN 6 8 127 (some 18) rfl rfl (by kernel_rfl) (by decide) (fun K hK => ?_)
 refine goes_ Tryz.func77 (by kernel_rfl) rfl #[.map (some P0), .string fp.name] (by rfl) rfl rfl (by (try simp only [List.map_toArray, List.map_cons, List.map_nil]); first | done | rfl | (simp only [List.length_drop, List.length_take]; rfl)) ?_; refine (propsGet _ lo hi P0 x.f1 gs fp.name HQ.out hh2 hU.name (by have := hKp.name; omega)).mono ?_
 intro e w3 hpost
 obtain ⟨r, rfl, hb, hr⟩ : ∃ r : Option Addr, e = .returned (.pointer r) ∧ Below w2.heap.size w2 w3 ∧ ((r = none ∧ firstP x.f1 fp.name = none) ∨ ∃ p g, r = some ⟨g, 0, none⟩ ∧ firstP x.f1 fp.name = some p ∧ PrAt w3 g p) := by
  rcases hpost with ⟨h1, rfl, h2⟩ | ⟨p, g, h1, rfl, h2, h3⟩
  ·exact ⟨none, rfl, h2, .inl ⟨rfl, h1⟩⟩
  ·exact ⟨_, rfl, h3, .inr ⟨p, g, rfl, h1, h2⟩⟩
 refine ⟨_, rfl, ?_⟩
 have HR := hI hr
 have HX := hI (below_blk hb HX.out)
 have HC := hI (below_blk hb HC.out)
 have HT := hI (HT.out.below hb)
 have HV := hI (Kd.C_below HV.out hb)
 have HD := hI (HD.out.below hb)
 have HG := hI (HG.out.below hb HG.out.size)
 have HB := hI (HB.out.trans (hb.mono HB.out.size))
 clear hb hr hpost HQ hh2
 refine hK.out _ _ ⟨(cell_blk HC.out 1).trans rfl, (cell_blk HX.out 0).trans rfl⟩ (fun hHeld => ?_)
 clear hK K
 refine norm_ (by show Act.put _ (some 18) _ = _; simp only [sW]; rfl) ?_
 refine lA 7 8 255 (some 6) rfl rfl (by kernel_rfl) (by decide) (fun K hK => ?_)
 refine value_ (v := ?_) (w1 := ?_) (by rfl) rfl ?_ ?_; rotate_left 2; (go_simp; first | rfl | (constructor <;> rfl))
 refine hK.out _ _ ?_
 clear hK K
 refine norm_ (by show Act.put _ (some 6) _ = _; simp only [sW]; rfl) ?_
 refine done_ (by kernel_rfl) ?_
 have x1 := (cell_blk HX.out 1).trans rfl
 have x11 := (cell_blk HX.out 11).trans rfl
 rcases HR.out with ⟨rfl, hf⟩ | ⟨p, g, rfl, hf, hPr⟩
 ·have hF : Hid (propV fp x.f1 = fp.absent) := hI (by unfold propV; rw [hf])
  clear HR hf hP
  go_wp2
  exact bodyPost_ret (v := .tuple #[.bool (fp.absent), .nilIface]) (by simp [results, Tryz.results112, go_sem]) rfl ⟨by rw [hF.out], HB.out⟩
 ·obtain ⟨hab, hhe, hmo⟩ := hP p hf
  have hpm := firstP_mem hf
  have hoP := hO.2.2 p hpm.1
  have hgs := fun n : ByteArray => paramGet_size (n := n) hoP.2.2.2
  have hF : Hid (propV fp x.f1 = (parsV fp.params p && (if fp.has then decide (fp.st < (imo p).1) && decide ((imo p).1 < fp.en) else textV fp.text p.f2))) := hI (by unfold propV; rw [hf])
  have HP := hI hPr
  have HH := hI (And.intro hhe hmo)
  clear HR hf hP hPr hhe hmo hab
  go_wp2_with fail
  go_loopw [26] (fun i wr => ∃ k : Nat, k ≤ fp.params.length ∧ i = .int .i64 k ∧ Hid (Below w.heap.size w wr) ∧ Hid (Below w3.heap.size w3 wr) ∧ Hid (parsV (fp.params.take k) p = true)) (fun i _ => fp.params.length - (RowKit.intOf i).toNat)
  case atStart => exact ⟨0, Nat.zero_le _, rfl, HB, hI (Below.refl _ _), hI rfl⟩
  case round =>
   clear HB x1 x11
   obtain ⟨k, hk, rfl, HB, HB3, HA3⟩ := hrel
   obtain ⟨wo, rfl⟩ : ∃ wo : World, wo = wr := ⟨_, rfl⟩
   by_cases hlt : k < fp.params.length
   ·obtain ⟨q, hqe⟩ : ∃ q, fp.params[k]? = some q := ⟨_, List.getElem?_eq_getElem hlt⟩
    obtain ⟨ad, q2, rfl, hty, g0, g1, g2⟩ := at_oPa (Kd.C_below HV.out HB3.out) k q hqe
    have hqm := List.mem_of_getElem? hqe
    have hka := hKp.params q hqm
    have hkg : upper q.name = q.name := hU.params q hqm
    have hqe := hI hqe
    go_wp2_with fail
    refine (paramFilter _ g q2 p q.name q.absent q.text ((HP.out.below HB3.out).below (below_alloc (Below.refl _ _) _)) (hty.below (below_alloc (Below.refl _ _) _)) hkg (by have := hka.name; omega) (by have := hgs q.name; omega) (fun t ht => by have := hka.text t ht; omega)).mono ?_
    rintro _ w5 ⟨rfl, hb⟩
    have hb := (below_alloc (Below.refl _ _) _).trans (hb.mono (by simp))
    have HB := hI (HB.out.trans (hb.mono HB.out.size))
    have HB3 := hI (HB3.out.trans (hb.mono HB3.out.size))
    clear hb g0 g1 g2
    cases hv : paramV q.name q.absent q.text p.f1 with
    | false =>
     have hF : Hid (propV fp x.f1 = false) := hI (by rw [hF.out, parsV_false fp.params p k q hqe.out hv]; rfl)
     go_wp2
     exact bodyPost_ret (v := .tuple #[.bool (false), .nilIface]) (by simp [results, Tryz.results112, go_sem]) rfl ⟨by rw [hF.out], HB.out⟩
    | true =>
     have hA : Hid (parsV (fp.params.take (k + 1)) p = true) := hI (by rw [parsV_take fp.params p k q hqe.out, HA3.out, hv]; rfl)
     go_wp2
     exact ⟨⟨k + 1, by omega, by go_num, HB, HB3, hA⟩, by simp [RowKit.intOf]; omega⟩
   ·obtain rfl : k = fp.params.length := by omega
    have hA : parsV fp.params p = true := by have := HA3.out; rwa [List.take_length] at this
    have hF : Hid (propV fp x.f1 = (if fp.has then decide (fp.st < (imo p).1) && decide ((imo p).1 < fp.en) else textV fp.text p.f2)) := hI (by rw [hF.out, hA]; rfl)
    have HX := hI (below_blk HB3.out HX.out)
    have HT := hI (HT.out.below HB3.out)
    have HD := hI (HD.out.below HB3.out)
    have HG := hI (HG.out.below HB3.out HG.out.size)
    have HP := hI (HP.out.below HB3.out)
    have y2 : ∀ o, (wo.alloc o).cell? ⟨w.heap.size, 2, none⟩ = some (.int .i64 a) := fun o => pw_cell_below (below_alloc (Below.refl _ _) o) ((cell_blk HX.out 2).trans rfl)
    have y3 : ∀ o, (wo.alloc o).cell? ⟨w.heap.size, 3, none⟩ = some (.int .i32 0) := fun o => pw_cell_below (below_alloc (Below.refl _ _) o) ((cell_blk HX.out 3).trans rfl)
    have y4 : ∀ o, (wo.alloc o).cell? ⟨w.heap.size, 4, none⟩ = some (.string l) := fun o => pw_cell_below (below_alloc (Below.refl _ _) o) ((cell_blk HX.out 4).trans rfl)
    have y5 : ∀ o, (wo.alloc o).cell? ⟨w.heap.size, 5, none⟩ = some (.int .i64 0) := fun o => pw_cell_below (below_alloc (Below.refl _ _) o) ((cell_blk HX.out 5).trans rfl)
    have y6 : ∀ o, (wo.alloc o).cell? ⟨w.heap.size, 6, none⟩ = some (.int .i64 z) := fun o => pw_cell_below (below_alloc (Below.refl _ _) o) ((cell_blk HX.out 6).trans rfl)
    have y7 : ∀ o, (wo.alloc o).cell? ⟨w.heap.size, 7, none⟩ = some (.int .i32 0) := fun o => pw_cell_below (below_alloc (Below.refl _ _) o) ((cell_blk HX.out 7).trans rfl)
    have y8 : ∀ o, (wo.alloc o).cell? ⟨w.heap.size, 8, none⟩ = some (.string l2) := fun o => pw_cell_below (below_alloc (Below.refl _ _) o) ((cell_blk HX.out 8).trans rfl)
    have y9 : ∀ o, (wo.alloc o).cell? ⟨w.heap.size, 9, none⟩ = some (.int .i64 0) := fun o => pw_cell_below (below_alloc (Below.refl _ _) o) ((cell_blk HX.out 9).trans rfl)
    have y10 : ∀ o, (wo.alloc o).cell? ⟨w.heap.size, 10, none⟩ = some (.pointer tq) := fun o => pw_cell_below (below_alloc (Below.refl _ _) o) ((cell_blk HX.out 10).trans rfl)
    obtain ⟨ha, hl, hz, hl2⟩ := HA.out
    by_cases hs : fp.has = true
    ·obtain ⟨hhe, hmo⟩ := HH.out
     have hM := hmo hs
     have ha' : a ≠ 0 := by rw [← ha, hs]; have := hKp.st; show fp.st + 62135596800 ≠ 0; omega
     have ha2 : a = fp.st + 62135596800 := by rw [← ha, hs]; rfl
     have hz2 : z = fp.en + 62135596800 := by rw [← hz, hhe, hs]; rfl
     have hin : inR a z ((imo p).1 + 62135596800) = (decide (fp.st < (imo p).1) && decide ((imo p).1 < fp.en)) := by
      have h9 := hKp.en
      unfold inR
      rw [ha2, hz2, decide_eq_false (show ¬ fp.en + 62135596800 = 0 by omega), Bool.false_or]
      congr 1 <;> (apply decide_eq_decide.2; omega)
     have hF : Hid (propV fp x.f1 = inR a z ((imo p).1 + 62135596800)) := hI (by rw [hF.out, if_pos hs, hin])
     have HM := hI hM
     clear ha hl hz hl2 hhe hmo hin ha2 hz2 hM HA HH
     have hda : decide (a = 0) = false := decide_eq_false ha'
     go_wp2_with fail
     have hb0 := below_alloc (Below.refl wo.heap.size wo) (.cells #[.int .i64 0, .int .i32 0, .string { data := #[] }, .int .i64 0] 70)
     refine (propTime _ g p f a 0 z 0 (imo p).1 l l2 (HP.out.below hb0) (HD.out.below hb0) (HG.out.below hb0 HG.out.size) HM.out).mono ?_
     rintro _ w5 ⟨rfl, hb⟩
     have HB := hI (HB.out.trans ((hb0.trans (hb.mono hb0.size)).mono HB.out.size))
     clear hb hb0 y2 y3 y4 y5 y6 y7 y8 y9 y10 HX
     cases hv : inR a z ((imo p).1 + 62135596800) with
     | false =>
      have hF : Hid (propV fp x.f1 = false) := hI (by rw [hF.out, hv])
      go_wp2
      exact bodyPost_ret (v := .tuple #[.bool (false), .nilIface]) (by simp [results, Tryz.results112, go_sem]) rfl ⟨by rw [hF.out], HB.out⟩
     | true =>
      have hF : Hid (propV fp x.f1 = true) := hI (by rw [hF.out, hv])
      go_wp2
      exact bodyPost_ret (v := .tuple #[.bool (true), .nilIface]) (by simp [results, Tryz.results112, go_sem]) rfl ⟨by rw [hF.out], HB.out⟩
    ·have hs' : fp.has = false := by simpa using hs
     have ha2 : a = 0 := by rw [← ha, hs']; rfl
     have hl2' : l = { data := #[] } := by rw [← hl, hs']; rfl
     have hF : Hid (propV fp x.f1 = textV fp.text p.f2) := hI (by rw [hF.out, if_neg hs])
     clear ha hl hz hl2 HA HH hs hs'
     subst ha2 hl2'
     cases ht : fp.text with
     | none =>
      have hF : Hid (propV fp x.f1 = true) := hI (by rw [hF.out, ht]; rfl)
      obtain rfl : tq = none := by have := HT.out; rw [ht] at this; exact this
      have HB := hI (HB.out.alloc HB.out.size (.cells #[.int .i64 0, .int .i32 0, .string { data := #[] }, .int .i64 0] 70))
      clear ht HT
      go_wp2
      exact bodyPost_ret (v := .tuple #[.bool (true), .nilIface]) (by simp [results, Tryz.results112, go_sem]) rfl ⟨by rw [hF.out], HB.out⟩
     | some t =>
      have hF : Hid (propV fp x.f1 = (holdB p.f2 t.1 != t.2)) := hI (by rw [hF.out, ht]; rfl)
      have hT2 := HT.out
      rw [ht] at hT2
      obtain ⟨tb, rfl, t0, t1⟩ := hT2
      have hts := hKp.text t ht
      obtain ⟨M, plo, phi, p0, p1, p2, _, _⟩ := HP.out
      have HB := hI (HB.out.alloc HB.out.size (.cells #[.int .i64 0, .int .i32 0, .string { data := #[] }, .int .i64 0] 70))
      have t0' : ∀ o, (wo.alloc o).cell? ⟨tb, 0, none⟩ = some (.string t.1) := fun o => pw_cell_below (below_alloc (Below.refl _ _) o) t0
      have t1' : ∀ o, (wo.alloc o).cell? ⟨tb, 1, none⟩ = some (.bool t.2) := fun o => pw_cell_below (below_alloc (Below.refl _ _) o) t1
      have p2' : ∀ o, (wo.alloc o).cell? ⟨g, 2, none⟩ = some (.string p.f2) := fun o => pw_cell_below (below_alloc (Below.refl _ _) o) p2
      clear ht HT t0 t1 p0 p1 p2
      go_wp2_with fail
      have e0 := t0' (.cells #[.int .i64 0, .int .i32 0, .string { data := #[] }, .int .i64 0] 70)
      have e1 := t1' (.cells #[.int .i64 0, .int .i32 0, .string { data := #[] }, .int .i64 0] 70)
      have e2 := p2' (.cells #[.int .i64 0, .int .i32 0, .string { data := #[] }, .int .i64 0] 70)
      have e3 := y10 (.cells #[.int .i64 0, .int .i32 0, .string { data := #[] }, .int .i64 0] 70)
      clear t0' t1' p2' y2 y3 y4 y5 y6 y7 y8 y9 y10
      generalize hw6 : wo.alloc _ = w6 at e0 e1 e2 e3 HB ⊢
      clear hw6
      have e0' : ∀ d os, (grow (redrawn w6 d) os).cell? ⟨tb, 0, none⟩ = some (.string t.1) := fun d os => pw_cell_below (below_regrown _ _ _) e0
      have e1' : ∀ d os, (grow (redrawn w6 d) os).cell? ⟨tb, 1, none⟩ = some (.bool t.2) := fun d os => pw_cell_below (below_regrown _ _ _) e1
      have e2' : ∀ d os, (grow (redrawn w6 d) os).cell? ⟨g, 2, none⟩ = some (.string p.f2) := fun d os => pw_cell_below (below_regrown _ _ _) e2
      have e3' : ∀ d os, (grow (redrawn w6 d) os).cell? ⟨w.heap.size, 10, none⟩ = some (.pointer (some ⟨tb, 0, none⟩)) := fun d os => pw_cell_below (below_regrown _ _ _) e3
      have hp2 : p.f2.size ≤ 140737488351232 := by have := hoP.2.1; omega
      have ht2 : t.1.size ≤ 140737488351232 := by omega
      refine wp_region_quiet_below (by kernel_rfl) (by kernel_rfl) ?_; (repeat (first | go_big_quiet_step ((go_at_call 154; exact Calls.regrown_of (textMatch t.1 p.f2 t.2 _ hp2 ht2))) | quiet_step ((go_at_call 154; exact Calls.regrown_of (textMatch t.1 p.f2 t.2 _ hp2 ht2))))); refine wpQuiet_nil ?_; intro wq hw'; obtain ⟨⟨dq, osq⟩, hw''⟩ := hw'; have hbq := below_quiet hw''; clear hw''
      have HB := hI (HB.out.trans (hbq.mono HB.out.size))
      clear e0 e1 e2 e3 e0' e1' e2' e3' hbq
      cases hv : (holdB p.f2 t.1 != t.2) with
      | false =>
       have hF : Hid (propV fp x.f1 = false) := hI (by rw [hF.out, hv])
       go_wp2
       exact bodyPost_ret (v := .tuple #[.bool (false), .nilIface]) (by simp [results, Tryz.results112, go_sem]) rfl ⟨by rw [hF.out], HB.out⟩
      | true =>
       have hF : Hid (propV fp x.f1 = true) := hI (by rw [hF.out, hv])
       go_wp2
       exact bodyPost_ret (v := .tuple #[.bool (true), .nilIface]) (by simp [results, Tryz.results112, go_sem]) rfl ⟨by rw [hF.out], HB.out⟩
end Go.Proofs.YtcllaplddebilaaGreatDoor

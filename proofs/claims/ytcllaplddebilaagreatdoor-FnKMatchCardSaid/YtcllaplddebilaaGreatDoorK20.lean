/- laws.FnKMatch: a part of the proof: SeenP. -/
import Derived.Test.YtcllaplddebilaaGreatDoorK19
set_option maxRecDepth 1000000
set_option maxHeartbeats 64000000
set_option linter.unusedVariables false
set_option linter.unusedSimpArgs false
namespace Go.Proofs.YtcllaplddebilaaGreatDoor
open Go.RowKit Go.Sort
attribute [local go_sem] cell?_grow frozen?_grow cell?_redrawn frozen?_redrawn size_redrawn size_grow ba_get ba_extract
attribute [local simp] size_redrawn
open Go.Lib Go.Proofs.YtcllaplddebilaaGreatDoorW.PrintWords Go.Proofs.YtcllaplddebilaaGreatDoorW.PrintLast Go.Proofs.YtcllaplddebilaaGreatDoorW.PrintMore PFnKMatch
theorem paramGet_none (ps : List S151) (n : ByteArray) (h : ∀ p ∈ ps, p.f0 ≠ n) : paramGet ps n = { data := #[] } := by
 unfold paramGet lookP
 rw [List.filter_eq_nil_iff.2 (fun p hp => by simp [h p hp])]
 rfl
theorem paramGet_first (ps : List S151) (n : ByteArray) (k : Nat) (y : S151) (u : ByteArray) (hy : ps[k]? = some y) (hn : y.f0 = n) (h : ∀ p ∈ ps.take k, p.f0 ≠ n) (hu : y.f1 = [u]) : paramGet ps n = u := by
 unfold paramGet lookP
 have hl : k < ps.length := (List.getElem?_eq_some_iff.1 hy).1
 have e : ps = ps.take k ++ (y :: ps.drop (k + 1)) := by
  rw [List.getElem?_eq_getElem hl] at hy
  injection hy with hy
  rw [← hy, ← List.drop_eq_getElem_cons hl, List.take_append_drop]
 rw [e, List.filter_append, List.filter_eq_nil_iff.2 (fun p hp => by simp [h p hp]), List.nil_append, List.filter_cons, if_pos (by simp [hn]), List.flatMap_cons, hu]
 rfl
theorem addr_add0 (a : Addr) : a.add 0 = a := by
 unfold Addr.add
 rfl
theorem seenParam (w0 w : World) (O : Nat) (o : Bool) (q : KPa) (qp : Option Addr) (p : S75) (V : Option Addr) (cv : Nat) (hb0 : Below w0.heap.size w0 w) (hO0 : w0.heap.size ≤ O) (hO : w.heap[O]? = some (.cells #[.bool o] 85)) (hT : TxtAt w0 qp q.text) (hts : ∀ t, q.text = some t → t.1.size ≤ 200) (hp : PvOk w0 (some (p, V, cv))) (hps : p.f1.length ≤ 100) (hpq : ∀ y ∈ p.f1, okQ y) :
  Calls Tryz.prog 107 #[.pointer (some ⟨O, 0, none⟩), .agg #[.string q.name, .bool q.absent, .pointer qp], .agg #[.string p.f0, .slice V p.f1.length cv, .string p.f2]] w (SeenPost w O o (fun v => v = paramV q.name q.absent q.text p.f1)) := by
 have hlO := lt_blk hO
 have hz0 := hb0.size
 obtain ⟨hpc, hpv⟩ := hp
 have HT := hI hT
 clear hT
 go_enter Tryz.func107, Tryz.ntmps107
 go_wp2_with fail
 have hF := old_blk (new_blk w (.cells #[.string q.name, .bool q.absent, .pointer qp] 158)) (.cells #[.string p.f0, .slice V p.f1.length cv, .string p.f2] 75)
 have hC := old_blk (old_blk hO (.cells #[.string q.name, .bool q.absent, .pointer qp] 158)) (.cells #[.string p.f0, .slice V p.f1.length cv, .string p.f2] 75)
 have hO1 : Only [O] w ((w.alloc (.cells #[.string q.name, .bool q.absent, .pointer qp] 158)).alloc (.cells #[.string p.f0, .slice V p.f1.length cv, .string p.f2] 75)) := ((Only.refl [O] w).alloc _).alloc _
 have hs1 : ((w.alloc (.cells #[.string q.name, .bool q.absent, .pointer qp] 158)).alloc (.cells #[.string p.f0, .slice V p.f1.length cv, .string p.f2] 75)).heap.size = w.heap.size + 1 + 1 := by simp
 generalize hw1 : World.alloc _ _ = w1 at hF hC hO1 hs1 ⊢
 clear hw1
 have HF := hI hF
 have HC := hI hC
 have HO := hI hO1
 clear hF hC hO1 hO
 go_loopw [12] (fun i wr => ∃ k : Nat, k ≤ p.f1.length ∧ i = .int .i64 k ∧ w.heap.size + 1 < wr.heap.size ∧ Hid (wr.heap[w.heap.size]? = some (.cells #[.string q.name, .bool q.absent, .pointer qp] 158)) ∧ Hid (wr.heap[O]? = some (.cells #[.bool o] 85)) ∧ Hid (Only [O] w wr) ∧ Hid (∀ y ∈ p.f1.take k, y.f0 ≠ q.name)) (fun i _ => p.f1.length - (RowKit.intOf i).toNat)
 case atStart => exact ⟨0, Nat.zero_le _, rfl, by omega, HF, HC, HO, hI (fun y hy => by simp at hy)⟩
 case round =>
  clear HF HC HO hs1
  obtain ⟨k, hk, rfl, hsw, HF, HC, HO, HN⟩ := hrel
  obtain ⟨wo, rfl⟩ : ∃ wo : World, wo = wr := ⟨_, rfl⟩
  have hbo : Below w0.heap.size w0 wo := hb0.trans (HO.out.below hz0 (by intro y hy; simp at hy; omega))
  by_cases hlt : k < p.f1.length
  ·obtain ⟨y, hye⟩ : ∃ y, p.f1[k]? = some y := ⟨_, List.getElem?_eq_getElem hlt⟩
   have hym := List.mem_of_getElem? hye
   obtain ⟨ad, Y, yc, rfl, hyl, hyv, g0, g1⟩ := at151 hpv k y hye
   have g0 := pw_cell_below hbo g0
   have g1 := pw_cell_below hbo g1
   have hq0 : ∀ ob, (wo.alloc ob).cell? ⟨w.heap.size, 0, none⟩ = some (.string q.name) := fun ob => (cell_blk (old_blk HF.out ob) 0).trans rfl
   have hyq := hpq y hym
   have hylen := hyv.2.1
   by_cases hn : y.f0 = q.name
   ·have hyp := hI (And.intro hye hn)
    have hd : (y.f0.toList == q.name.toList) = true := by rw [hn]; exact beq_self_eq_true _
    have hLo := lt_blk HC.out
    have r1 : wo.frozen? ⟨O, 0, none⟩ = false := frozen_blk HC.out 0 (by omega)
    have hq1 : ∀ ob, (wo.alloc ob).cell? ⟨w.heap.size, 1, none⟩ = some (.bool q.absent) := fun ob => (cell_blk (old_blk HF.out ob) 1).trans rfl
    clear hn hye
    cases o with
    | true =>
     have r0 : wo.cell? ⟨O, 0, none⟩ = some (.bool true) := (cell_blk HC.out 0).trans rfl
     go_wp2_with fail
     obtain ⟨o5, ho5⟩ : ∃ o5, o5 = true := ⟨_, rfl⟩
     have hC : ((wo.setCell ⟨O, 0, none⟩ (.bool true)).alloc (.cells #[.string y.f0, .slice Y y.f1.length yc] 151)).heap[O]? = some (.cells #[.bool o5] 85) := by rw [ho5]; exact old_blk (set_blk HC.out 0 (.bool true)) (.cells #[.string y.f0, .slice Y y.f1.length yc] 151)
     have hsz5 : (wo.setCell ⟨O, 0, none⟩ (.bool true)).heap.size = wo.heap.size := by simp [World.setCell]
     have hE := new_blk (wo.setCell ⟨O, 0, none⟩ (.bool true)) (.cells #[.string y.f0, .slice Y y.f1.length yc] 151)
     rw [hsz5] at hE
     have hF := old_blk ((Below.heap_setCell wo ⟨O, 0, none⟩ (.bool true) w.heap.size (by show w.heap.size ≠ O; omega)).trans HF.out) (.cells #[.string y.f0, .slice Y y.f1.length yc] 151)
     have hO5 := ((HO.out.setCell (p := ⟨O, 0, none⟩) (by simp) (.bool true)).alloc (.cells #[.string y.f0, .slice Y y.f1.length yc] 151))
     have hW5 : Below w0.heap.size w0 ((wo.setCell ⟨O, 0, none⟩ (.bool true)).alloc (.cells #[.string y.f0, .slice Y y.f1.length yc] 151)) := (hbo.setCell (p := ⟨O, 0, none⟩) (by show w0.heap.size ≤ O; omega) (.bool true)).alloc (by rw [hsz5]; exact hbo.size) (.cells #[.string y.f0, .slice Y y.f1.length yc] 151)
     have hl5 : (o5 = false → true = false ∧ y.f1.length = 1 ∧ (∃ u, y.f1[0]? = some u ∧ ¬ u = { data := #[] }) ∧ q.absent = false) := fun h => by rw [ho5] at h; cases h
     generalize ((wo.setCell ⟨O, 0, none⟩ (.bool true)).alloc (.cells #[.string y.f0, .slice Y y.f1.length yc] 151)) = wk at hC hE hF hO5 hW5 ⊢
     have HC := hI hC
     have HE := hI hE
     have HF := hI hF
     have HO := hI hO5
     have HW := hI hW5
     have HL := hI hl5
     clear hC hE hF hO5 hW5 hl5 hsz5 ho5
     have f1 : wk.cell? ⟨w.heap.size, 1, none⟩ = some (.bool q.absent) := (cell_blk HF.out 1).trans rfl
     have f2 : wk.cell? ⟨w.heap.size, 2, none⟩ = some (.pointer qp) := (cell_blk HF.out 2).trans rfl
     have e1 : wk.cell? ⟨wo.heap.size, 1, none⟩ = some (.slice Y y.f1.length yc) := (cell_blk HE.out 1).trans rfl
     by_cases hz : y.f1.length = 0
     ·have hzi : ¬ (0 : Int) < (y.f1.length : Int) := by omega
      have hzn : ¬ 0 < y.f1.length := by omega
      have HZ := hI hz
      clear hz
      go_quiet (fail)
      generalize hwd : World.drewN wk nq = wd
      have hbk : Below wk.heap.size wk wd := (by rw [← hwd]; exact below_drewN (Below.refl _ _) _)
      clear hwd
      have HC := hI (below_blk hbk HC.out)
      have HO := hI (HO.out.trans (Only.of_below hbk))
      clear hbk
      go_wp2
      go_ret
      exact ⟨o5, false, rfl, HC.out, HO.out, fun h => by have := (HL.out h).2.1; have := HZ.out; omega⟩
     ·have hzi : (0 : Int) < (y.f1.length : Int) := by omega
      have hzn : 0 < y.f1.length := by omega
      clear hz
      obtain ⟨u0, hu0'⟩ : ∃ u, y.f1[0]? = some u := ⟨_, List.getElem?_eq_getElem (by omega)⟩
      obtain ⟨ad3, hY, hu1⟩ := atStr (Kd.C_below hyv HW.out) 0 u0 hu0'
      cases hY
      rw [addr_add0] at hu1
      have hu0s : u0.size ≤ 100000 := by have := hyq.2.2 u0 (List.mem_of_getElem? hu0'); omega
      have hu0 := hI hu0'
      clear hu0'
      cases hab : q.absent with
      | true =>
       rw [hab] at f1
       have H8 := hI hab
       clear hab
       go_quiet (fail)
       generalize hwd : World.drewN wk nq = wd
       have hbk : Below wk.heap.size wk wd := (by rw [← hwd]; exact below_drewN (Below.refl _ _) _)
       clear hwd
       have HC := hI (below_blk hbk HC.out)
       have HO := hI (HO.out.trans (Only.of_below hbk))
       clear hbk
       go_wp2
       go_ret
       exact ⟨o5, false, rfl, HC.out, HO.out, fun h => by have h9 := (HL.out h).2.2.2; rw [H8.out] at h9; cases h9⟩
      | false =>
       rw [hab] at f1
       have H8 := hI hab
       clear hab
       have hrv : o5 = false → true = false ∧ paramGet p.f1 q.name = u0 ∧ ¬ u0 = { data := #[] } := fun h => by
        obtain ⟨u, h3, h4⟩ := (HL.out h).2.2.1
        have h2 := (HL.out h).2.1
        have h5 : u = u0 := by rw [hu0.out] at h3; injection h3 with h3; exact h3.symm
        subst h5
        exact ⟨(HL.out h).1, paramGet_first p.f1 q.name k y u hyp.out.1 hyp.out.2 HN.out (by
         cases hl : y.f1 with
         | nil => rw [hl] at h2; simp at h2
         | cons a b =>
          rw [hl] at h2 h3
          simp at h2 h3
          rw [h2, h3]), h4⟩
       have HR := hI hrv
       clear hrv
       cases htx : q.text with
       | none =>
        obtain rfl : qp = none := by have := HT.out; rw [htx] at this; exact this
        have H9 := hI htx
        clear htx
        go_quiet (fail)
        generalize hwd : World.drewN wk nq = wd
        have hbk : Below wk.heap.size wk wd := (by rw [← hwd]; exact below_drewN (Below.refl _ _) _)
        clear hwd
        have HC := hI (below_blk hbk HC.out)
        have HO := hI (HO.out.trans (Only.of_below hbk))
        clear hbk
        go_wp2
        go_ret
        exact ⟨o5, true, rfl, HC.out, HO.out, fun h => ⟨by first | rfl | exact (HR.out h).1, by unfold paramV; rw [(HR.out h).2.1, if_neg (HR.out h).2.2, H8.out, if_neg (by simp), H9.out]⟩⟩
       | some t =>
        obtain ⟨tb, tof, rfl, t0, t1⟩ : ∃ b o : Nat, qp = some ⟨b, o, none⟩ ∧ w0.cell? ⟨b, o, none⟩ = some (.string t.1) ∧ w0.cell? ⟨b, o + 1, none⟩ = some (.bool t.2) := by have := HT.out; rw [htx] at this; exact this
        have htl : t.1.size ≤ 100000 := by have := hts t htx; omega
        have hlt0 : tb < w0.heap.size := World.block_lt_of_cell? w0 ⟨tb, tof, none⟩ t0
        have H9 := hI htx
        have HTT := hI (And.intro t0 t1)
        clear htx t0 t1
        refine start_ (n := 25) (S := fun W => W.cell? ⟨w.heap.size, 1, none⟩ = some (.bool false) ∧ W.cell? ⟨w.heap.size, 2, none⟩ = some (.pointer (some ⟨tb, tof, none⟩)) ∧ W.cell? ⟨wo.heap.size, 1, none⟩ = some (.slice (some ad3) y.f1.length yc) ∧ W.cell? ad3 = some (.string u0)) (ds := [21]) (bM 25 0) (by kernel_rfl) rfl (by kernel_rfl) ⟨f1, f2, e1, hu1⟩ (fun hHeld => ?_)
        have HC := hI (show wk.drew.heap[O]? = _ from HC.out)
        have HO := hI (show Only [O] w wk.drew from HO.out.drew)
        have HW := hI (show Below w0.heap.size w0 wk.drew from HW.out.drew)
        generalize wk.drew = wj at HC HO HW hHeld ⊢
        refine pU 0 25 1 (some 45) rfl rfl (by kernel_rfl) rfl (fun _ => by go_simp; with_reducible rfl) (by simp only [sW]; rfl) ?_
        refine tA 1 25 3 (some 46) rfl rfl (by kernel_rfl) rfl (fun _ ⟨s0, s1, s2, s3⟩ => by go_simp; with_reducible rfl) hHeld (by simp only [sW]; rfl) ?_
        refine pU 2 25 7 (some 47) rfl rfl (by kernel_rfl) rfl (fun _ => by go_simp; with_reducible rfl) (by simp only [sW]; rfl) ?_
        refine pU 3 25 15 (some 48) rfl rfl (by kernel_rfl) rfl (fun _ => by go_simp; with_reducible rfl) (by simp only [sW]; rfl) ?_
        refine pU 4 25 31 (some 49) rfl rfl (by kernel_rfl) rfl (fun _ => by go_simp; with_reducible rfl) (by simp only [sW]; rfl) ?_
        refine pU 5 25 63 (some 50) rfl rfl (by kernel_rfl) rfl (fun _ => by go_simp; with_reducible rfl) (by simp only [sW]; rfl) ?_
        refine tA 6 25 127 (some 51) rfl rfl (by kernel_rfl) rfl (fun _ ⟨s0, s1, s2, s3⟩ => by go_simp; with_reducible rfl) hHeld (by simp only [sW]; rfl) ?_
        refine pU 7 25 255 (some 52) rfl rfl (by kernel_rfl) rfl (fun _ => by go_simp; with_reducible rfl) (by simp only [sW]; rfl) ?_
        refine pU 8 25 511 (some 53) rfl rfl (by kernel_rfl) rfl (fun _ => by go_simp; with_reducible rfl) (by simp only [sW]; rfl) ?_
        refine pU 9 25 1023 (some 54) rfl rfl (by kernel_rfl) rfl (fun _ => by go_simp; with_reducible rfl) (by simp only [sW]; rfl) ?_
        refine pU 10 25 2047 (some 55) rfl rfl (by kernel_rfl) rfl (fun _ => by go_simp; with_reducible rfl) (by simp only [sW]; rfl) ?_
        refine tA 11 25 4095 (some 56) rfl rfl (by kernel_rfl) rfl (fun _ ⟨s0, s1, s2, s3⟩ => by go_simp; with_reducible rfl) hHeld (by simp only [sW]; rfl) ?_
        refine pU 12 25 8191 (some 57) rfl rfl (by kernel_rfl) rfl (fun _ => by go_simp; with_reducible rfl) (by simp only [sW]; rfl) ?_
        refine pU 13 25 16383 (some 58) rfl rfl (by kernel_rfl) rfl (fun _ => by go_simp; with_reducible rfl) (by simp only [sW]; rfl) ?_
        refine pU 14 25 32767 (some 59) rfl rfl (by kernel_rfl) rfl (fun _ => by go_simp; with_reducible rfl) (by simp only [sW]; rfl) ?_
        refine pU 15 25 65535 (some 60) rfl rfl (by kernel_rfl) rfl (fun _ => by go_simp; with_reducible rfl) (by simp only [sW]; rfl) ?_
        refine tA 16 25 131071 (some 61) rfl rfl (by kernel_rfl) rfl (fun _ ⟨s0, s1, s2, s3⟩ => by go_simp; with_reducible rfl) hHeld (by simp only [sW]; rfl) ?_
        refine pU 17 25 262143 (some 62) rfl rfl (by kernel_rfl) rfl (fun _ => by go_simp; with_reducible rfl) (by simp only [sW]; rfl) ?_
        refine tA 18 25 524287 (some 63) rfl rfl (by kernel_rfl) rfl (fun _ ⟨s0, s1, s2, s3⟩ => by go_simp; with_reducible rfl) hHeld (by simp only [sW]; rfl) ?_
        refine pU 19 25 1048575 (some 64) rfl rfl (by kernel_rfl) rfl (fun _ => by go_simp; with_reducible rfl) (by simp only [sW]; rfl) ?_
        refine tA 20 25 2097151 (some 65) rfl rfl (by kernel_rfl) rfl (fun _ ⟨s0, s1, s2, s3⟩ => by go_simp; with_reducible rfl) hHeld (by simp only [sW]; rfl) ?_
        refine lA 21 25 4194303 (some 66) rfl rfl (by kernel_rfl) (by decide) (fun K hK => ?_)
        refine goes_ Tryz.func109 (by kernel_rfl) rfl #[.pointer (some ⟨O, 0, none⟩), .pointer (some ⟨tb, tof, none⟩), .string u0] (by rfl) rfl rfl (by (try simp only [List.map_toArray, List.map_cons, List.map_nil]); first | done | rfl | (simp only [List.length_drop, List.length_take]; rfl)) ?_; refine (seenText wj O tb tof o5 t u0 HC.out (pw_cell_below HW.out HTT.out.1) (pw_cell_below HW.out HTT.out.2) (by omega) hu0s htl).mono ?_
        rintro _ w9 ⟨o', v, rfl, hC9, hO9, hR9⟩
        refine ⟨_, rfl, ?_⟩
        have HC := hI hC9
        have HO := hI (HO.out.trans hO9)
        have HR9 := hI hR9
        clear hC9 hO9 hR9
        refine hK.out _ _ ?_
        clear hK K
        refine norm_ (by show Act.put _ (some 66) _ = _; simp only [sW]; rfl) ?_
        refine pU 22 25 8388607 (some 67) rfl rfl (by kernel_rfl) rfl (fun _ => by go_simp; with_reducible rfl) (by simp only [sW]; rfl) ?_
        refine pU 23 25 16777215 (some 68) rfl rfl (by kernel_rfl) rfl (fun _ => by go_simp; with_reducible rfl) (by simp only [sW]; rfl) ?_
        refine pU 24 25 33554431 (some 6) rfl rfl (by kernel_rfl) rfl (fun _ => by go_simp; with_reducible rfl) (by simp only [sW]; rfl) ?_
        refine done_ (by kernel_rfl) ?_
        go_wp2
        go_ret
        refine ⟨o', v, rfl, HC.out, HO.out, fun h => ?_⟩
        obtain ⟨h1, h2⟩ := HR9.out h
        exact ⟨by first | rfl | exact (HR.out h1).1, by rw [h2]; unfold paramV; rw [(HR.out h1).2.1, if_neg (HR.out h1).2.2, H8.out, if_neg (by simp), H9.out]⟩
    | false =>
     have r0 : wo.cell? ⟨O, 0, none⟩ = some (.bool false) := (cell_blk HC.out 0).trans rfl
     by_cases hl1 : y.f1.length = 1
     ·obtain ⟨v0, hv0⟩ : ∃ u, y.f1[0]? = some u := ⟨_, List.getElem?_eq_getElem (by omega)⟩
      obtain ⟨ad3, hY, hv1⟩ := atStr (Kd.C_below hyv hbo) 0 v0 hv0
      cases hY
      rw [addr_add0] at hv1
      have hv1' : ∀ ob, (wo.alloc ob).cell? ad3 = some (.string v0) := fun ob => pw_cell_below (below_alloc (Below.refl _ _) ob) hv1
      have hl1i : ((y.f1.length : Int) == 1) = true := by rw [beq_iff_eq]; omega
      have hl1p : (0 : Int) < (y.f1.length : Int) := by omega
      have hl1n : 0 < y.f1.length := by omega
      have HL1 := hI hl1
      clear hl1
      by_cases hv : v0 = { data := #[] }
      ·have hvb : v0.toList.isEmpty = true := by rw [hv, Lib.toList_data]; rfl
       clear hv hv0
       go_wp2_with fail
       obtain ⟨o5, ho5⟩ : ∃ o5, o5 = true := ⟨_, rfl⟩
       have hC : ((wo.setCell ⟨O, 0, none⟩ (.bool true)).alloc (.cells #[.string y.f0, .slice (some ad3) y.f1.length yc] 151)).heap[O]? = some (.cells #[.bool o5] 85) := by rw [ho5]; exact old_blk (set_blk HC.out 0 (.bool true)) (.cells #[.string y.f0, .slice (some ad3) y.f1.length yc] 151)
       have hsz5 : (wo.setCell ⟨O, 0, none⟩ (.bool true)).heap.size = wo.heap.size := by simp [World.setCell]
       have hE := new_blk (wo.setCell ⟨O, 0, none⟩ (.bool true)) (.cells #[.string y.f0, .slice (some ad3) y.f1.length yc] 151)
       rw [hsz5] at hE
       have hF := old_blk ((Below.heap_setCell wo ⟨O, 0, none⟩ (.bool true) w.heap.size (by show w.heap.size ≠ O; omega)).trans HF.out) (.cells #[.string y.f0, .slice (some ad3) y.f1.length yc] 151)
       have hO5 := ((HO.out.setCell (p := ⟨O, 0, none⟩) (by simp) (.bool true)).alloc (.cells #[.string y.f0, .slice (some ad3) y.f1.length yc] 151))
       have hW5 : Below w0.heap.size w0 ((wo.setCell ⟨O, 0, none⟩ (.bool true)).alloc (.cells #[.string y.f0, .slice (some ad3) y.f1.length yc] 151)) := (hbo.setCell (p := ⟨O, 0, none⟩) (by show w0.heap.size ≤ O; omega) (.bool true)).alloc (by rw [hsz5]; exact hbo.size) (.cells #[.string y.f0, .slice (some ad3) y.f1.length yc] 151)
       have hl5 : (o5 = false → false = false ∧ y.f1.length = 1 ∧ (∃ u, y.f1[0]? = some u ∧ ¬ u = { data := #[] }) ∧ q.absent = false) := fun h => by rw [ho5] at h; cases h
       generalize ((wo.setCell ⟨O, 0, none⟩ (.bool true)).alloc (.cells #[.string y.f0, .slice (some ad3) y.f1.length yc] 151)) = wk at hC hE hF hO5 hW5 ⊢
       have HC := hI hC
       have HE := hI hE
       have HF := hI hF
       have HO := hI hO5
       have HW := hI hW5
       have HL := hI hl5
       clear hC hE hF hO5 hW5 hl5 hsz5 ho5
       have f1 : wk.cell? ⟨w.heap.size, 1, none⟩ = some (.bool q.absent) := (cell_blk HF.out 1).trans rfl
       have f2 : wk.cell? ⟨w.heap.size, 2, none⟩ = some (.pointer qp) := (cell_blk HF.out 2).trans rfl
       have e1 : wk.cell? ⟨wo.heap.size, 1, none⟩ = some (.slice (some ad3) y.f1.length yc) := (cell_blk HE.out 1).trans rfl
       by_cases hz : y.f1.length = 0
       ·exfalso; omega
       ·have hzi : (0 : Int) < (y.f1.length : Int) := by omega
        have hzn : 0 < y.f1.length := by omega
        clear hz
        obtain ⟨u0, hu0'⟩ : ∃ u, y.f1[0]? = some u := ⟨_, List.getElem?_eq_getElem (by omega)⟩
        obtain ⟨ad3, hY, hu1⟩ := atStr (Kd.C_below hyv HW.out) 0 u0 hu0'
        cases hY
        rw [addr_add0] at hu1
        have hu0s : u0.size ≤ 100000 := by have := hyq.2.2 u0 (List.mem_of_getElem? hu0'); omega
        have hu0 := hI hu0'
        clear hu0'
        cases hab : q.absent with
        | true =>
         rw [hab] at f1
         have H8 := hI hab
         clear hab
         go_quiet (fail)
         generalize hwd : World.drewN wk nq = wd
         have hbk : Below wk.heap.size wk wd := (by rw [← hwd]; exact below_drewN (Below.refl _ _) _)
         clear hwd
         have HC := hI (below_blk hbk HC.out)
         have HO := hI (HO.out.trans (Only.of_below hbk))
         clear hbk
         go_wp2
         go_ret
         exact ⟨o5, false, rfl, HC.out, HO.out, fun h => by have h9 := (HL.out h).2.2.2; rw [H8.out] at h9; cases h9⟩
        | false =>
         rw [hab] at f1
         have H8 := hI hab
         clear hab
         have hrv : o5 = false → false = false ∧ paramGet p.f1 q.name = u0 ∧ ¬ u0 = { data := #[] } := fun h => by
          obtain ⟨u, h3, h4⟩ := (HL.out h).2.2.1
          have h2 := (HL.out h).2.1
          have h5 : u = u0 := by rw [hu0.out] at h3; injection h3 with h3; exact h3.symm
          subst h5
          exact ⟨(HL.out h).1, paramGet_first p.f1 q.name k y u hyp.out.1 hyp.out.2 HN.out (by
           cases hl : y.f1 with
           | nil => rw [hl] at h2; simp at h2
           | cons a b =>
            rw [hl] at h2 h3
            simp at h2 h3
            rw [h2, h3]), h4⟩
         have HR := hI hrv
         clear hrv
         cases htx : q.text with
         | none =>
          obtain rfl : qp = none := by have := HT.out; rw [htx] at this; exact this
          have H9 := hI htx
          clear htx
          go_quiet (fail)
          generalize hwd : World.drewN wk nq = wd
          have hbk : Below wk.heap.size wk wd := (by rw [← hwd]; exact below_drewN (Below.refl _ _) _)
          clear hwd
          have HC := hI (below_blk hbk HC.out)
          have HO := hI (HO.out.trans (Only.of_below hbk))
          clear hbk
          go_wp2
          go_ret
          exact ⟨o5, true, rfl, HC.out, HO.out, fun h => ⟨by first | rfl | exact (HR.out h).1, by unfold paramV; rw [(HR.out h).2.1, if_neg (HR.out h).2.2, H8.out, if_neg (by simp), H9.out]⟩⟩
         | some t =>
          obtain ⟨tb, tof, rfl, t0, t1⟩ : ∃ b o : Nat, qp = some ⟨b, o, none⟩ ∧ w0.cell? ⟨b, o, none⟩ = some (.string t.1) ∧ w0.cell? ⟨b, o + 1, none⟩ = some (.bool t.2) := by have := HT.out; rw [htx] at this; exact this
          have htl : t.1.size ≤ 100000 := by have := hts t htx; omega
          have hlt0 : tb < w0.heap.size := World.block_lt_of_cell? w0 ⟨tb, tof, none⟩ t0
          have H9 := hI htx
          have HTT := hI (And.intro t0 t1)
          clear htx t0 t1
          refine start_ (n := 25) (S := fun W => W.cell? ⟨w.heap.size, 1, none⟩ = some (.bool false) ∧ W.cell? ⟨w.heap.size, 2, none⟩ = some (.pointer (some ⟨tb, tof, none⟩)) ∧ W.cell? ⟨wo.heap.size, 1, none⟩ = some (.slice (some ad3) y.f1.length yc) ∧ W.cell? ad3 = some (.string u0)) (ds := [21]) (bM 25 0) (by kernel_rfl) rfl (by kernel_rfl) ⟨f1, f2, e1, hu1⟩ (fun hHeld => ?_)
          have HC := hI (show wk.drew.heap[O]? = _ from HC.out)
          have HO := hI (show Only [O] w wk.drew from HO.out.drew)
          have HW := hI (show Below w0.heap.size w0 wk.drew from HW.out.drew)
          generalize wk.drew = wj at HC HO HW hHeld ⊢
          refine pU 0 25 1 (some 45) rfl rfl (by kernel_rfl) rfl (fun _ => by go_simp; with_reducible rfl) (by simp only [sW]; rfl) ?_
          refine tA 1 25 3 (some 46) rfl rfl (by kernel_rfl) rfl (fun _ ⟨s0, s1, s2, s3⟩ => by go_simp; with_reducible rfl) hHeld (by simp only [sW]; rfl) ?_
          refine pU 2 25 7 (some 47) rfl rfl (by kernel_rfl) rfl (fun _ => by go_simp; with_reducible rfl) (by simp only [sW]; rfl) ?_
          refine pU 3 25 15 (some 48) rfl rfl (by kernel_rfl) rfl (fun _ => by go_simp; with_reducible rfl) (by simp only [sW]; rfl) ?_
          refine pU 4 25 31 (some 49) rfl rfl (by kernel_rfl) rfl (fun _ => by go_simp; with_reducible rfl) (by simp only [sW]; rfl) ?_
          refine pU 5 25 63 (some 50) rfl rfl (by kernel_rfl) rfl (fun _ => by go_simp; with_reducible rfl) (by simp only [sW]; rfl) ?_
          refine tA 6 25 127 (some 51) rfl rfl (by kernel_rfl) rfl (fun _ ⟨s0, s1, s2, s3⟩ => by go_simp; with_reducible rfl) hHeld (by simp only [sW]; rfl) ?_
          refine pU 7 25 255 (some 52) rfl rfl (by kernel_rfl) rfl (fun _ => by go_simp; with_reducible rfl) (by simp only [sW]; rfl) ?_
          refine pU 8 25 511 (some 53) rfl rfl (by kernel_rfl) rfl (fun _ => by go_simp; with_reducible rfl) (by simp only [sW]; rfl) ?_
          refine pU 9 25 1023 (some 54) rfl rfl (by kernel_rfl) rfl (fun _ => by go_simp; with_reducible rfl) (by simp only [sW]; rfl) ?_
          refine pU 10 25 2047 (some 55) rfl rfl (by kernel_rfl) rfl (fun _ => by go_simp; with_reducible rfl) (by simp only [sW]; rfl) ?_
          refine tA 11 25 4095 (some 56) rfl rfl (by kernel_rfl) rfl (fun _ ⟨s0, s1, s2, s3⟩ => by go_simp; with_reducible rfl) hHeld (by simp only [sW]; rfl) ?_
          refine pU 12 25 8191 (some 57) rfl rfl (by kernel_rfl) rfl (fun _ => by go_simp; with_reducible rfl) (by simp only [sW]; rfl) ?_
          refine pU 13 25 16383 (some 58) rfl rfl (by kernel_rfl) rfl (fun _ => by go_simp; with_reducible rfl) (by simp only [sW]; rfl) ?_
          refine pU 14 25 32767 (some 59) rfl rfl (by kernel_rfl) rfl (fun _ => by go_simp; with_reducible rfl) (by simp only [sW]; rfl) ?_
          refine pU 15 25 65535 (some 60) rfl rfl (by kernel_rfl) rfl (fun _ => by go_simp; with_reducible rfl) (by simp only [sW]; rfl) ?_
          refine tA 16 25 131071 (some 61) rfl rfl (by kernel_rfl) rfl (fun _ ⟨s0, s1, s2, s3⟩ => by go_simp; with_reducible rfl) hHeld (by simp only [sW]; rfl) ?_
          refine pU 17 25 262143 (some 62) rfl rfl (by kernel_rfl) rfl (fun _ => by go_simp; with_reducible rfl) (by simp only [sW]; rfl) ?_
          refine tA 18 25 524287 (some 63) rfl rfl (by kernel_rfl) rfl (fun _ ⟨s0, s1, s2, s3⟩ => by go_simp; with_reducible rfl) hHeld (by simp only [sW]; rfl) ?_
          refine pU 19 25 1048575 (some 64) rfl rfl (by kernel_rfl) rfl (fun _ => by go_simp; with_reducible rfl) (by simp only [sW]; rfl) ?_
          refine tA 20 25 2097151 (some 65) rfl rfl (by kernel_rfl) rfl (fun _ ⟨s0, s1, s2, s3⟩ => by go_simp; with_reducible rfl) hHeld (by simp only [sW]; rfl) ?_
          refine lA 21 25 4194303 (some 66) rfl rfl (by kernel_rfl) (by decide) (fun K hK => ?_)
          refine goes_ Tryz.func109 (by kernel_rfl) rfl #[.pointer (some ⟨O, 0, none⟩), .pointer (some ⟨tb, tof, none⟩), .string u0] (by rfl) rfl rfl (by (try simp only [List.map_toArray, List.map_cons, List.map_nil]); first | done | rfl | (simp only [List.length_drop, List.length_take]; rfl)) ?_; refine (seenText wj O tb tof o5 t u0 HC.out (pw_cell_below HW.out HTT.out.1) (pw_cell_below HW.out HTT.out.2) (by omega) hu0s htl).mono ?_
          rintro _ w9 ⟨o', v, rfl, hC9, hO9, hR9⟩
          refine ⟨_, rfl, ?_⟩
          have HC := hI hC9
          have HO := hI (HO.out.trans hO9)
          have HR9 := hI hR9
          clear hC9 hO9 hR9
          refine hK.out _ _ ?_
          clear hK K
          refine norm_ (by show Act.put _ (some 66) _ = _; simp only [sW]; rfl) ?_
          refine pU 22 25 8388607 (some 67) rfl rfl (by kernel_rfl) rfl (fun _ => by go_simp; with_reducible rfl) (by simp only [sW]; rfl) ?_
          refine pU 23 25 16777215 (some 68) rfl rfl (by kernel_rfl) rfl (fun _ => by go_simp; with_reducible rfl) (by simp only [sW]; rfl) ?_
          refine pU 24 25 33554431 (some 6) rfl rfl (by kernel_rfl) rfl (fun _ => by go_simp; with_reducible rfl) (by simp only [sW]; rfl) ?_
          refine done_ (by kernel_rfl) ?_
          go_wp2
          go_ret
          refine ⟨o', v, rfl, HC.out, HO.out, fun h => ?_⟩
          obtain ⟨h1, h2⟩ := HR9.out h
          exact ⟨by first | rfl | exact (HR.out h1).1, by rw [h2]; unfold paramV; rw [(HR.out h1).2.1, if_neg (HR.out h1).2.2, H8.out, if_neg (by simp), H9.out]⟩
       all_goals (exfalso; have := HL1.out; omega)
      ·have hvb := notEmpty hv
       have HV0 := hI (And.intro hv0 (And.intro HL1.out hv))
       clear hv hv0
       cases hab0 : q.absent with
       | true =>
        replace hq1 : ∀ ob, (wo.alloc ob).cell? ⟨w.heap.size, 1, none⟩ = some (.bool true) := fun ob => by rw [hq1, hab0]
        have HAB := hI hab0
        clear hab0
        go_wp2_with fail
        obtain ⟨o5, ho5⟩ : ∃ o5, o5 = true := ⟨_, rfl⟩
        have hC : ((wo.setCell ⟨O, 0, none⟩ (.bool true)).alloc (.cells #[.string y.f0, .slice (some ad3) y.f1.length yc] 151)).heap[O]? = some (.cells #[.bool o5] 85) := by rw [ho5]; exact old_blk (set_blk HC.out 0 (.bool true)) (.cells #[.string y.f0, .slice (some ad3) y.f1.length yc] 151)
        have hsz5 : (wo.setCell ⟨O, 0, none⟩ (.bool true)).heap.size = wo.heap.size := by simp [World.setCell]
        have hE := new_blk (wo.setCell ⟨O, 0, none⟩ (.bool true)) (.cells #[.string y.f0, .slice (some ad3) y.f1.length yc] 151)
        rw [hsz5] at hE
        have hF := old_blk ((Below.heap_setCell wo ⟨O, 0, none⟩ (.bool true) w.heap.size (by show w.heap.size ≠ O; omega)).trans HF.out) (.cells #[.string y.f0, .slice (some ad3) y.f1.length yc] 151)
        have hO5 := ((HO.out.setCell (p := ⟨O, 0, none⟩) (by simp) (.bool true)).alloc (.cells #[.string y.f0, .slice (some ad3) y.f1.length yc] 151))
        have hW5 : Below w0.heap.size w0 ((wo.setCell ⟨O, 0, none⟩ (.bool true)).alloc (.cells #[.string y.f0, .slice (some ad3) y.f1.length yc] 151)) := (hbo.setCell (p := ⟨O, 0, none⟩) (by show w0.heap.size ≤ O; omega) (.bool true)).alloc (by rw [hsz5]; exact hbo.size) (.cells #[.string y.f0, .slice (some ad3) y.f1.length yc] 151)
        have hl5 : (o5 = false → false = false ∧ y.f1.length = 1 ∧ (∃ u, y.f1[0]? = some u ∧ ¬ u = { data := #[] }) ∧ q.absent = false) := fun h => by rw [ho5] at h; cases h
        generalize ((wo.setCell ⟨O, 0, none⟩ (.bool true)).alloc (.cells #[.string y.f0, .slice (some ad3) y.f1.length yc] 151)) = wk at hC hE hF hO5 hW5 ⊢
        have HC := hI hC
        have HE := hI hE
        have HF := hI hF
        have HO := hI hO5
        have HW := hI hW5
        have HL := hI hl5
        clear hC hE hF hO5 hW5 hl5 hsz5 ho5
        have f1 : wk.cell? ⟨w.heap.size, 1, none⟩ = some (.bool q.absent) := (cell_blk HF.out 1).trans rfl
        have f2 : wk.cell? ⟨w.heap.size, 2, none⟩ = some (.pointer qp) := (cell_blk HF.out 2).trans rfl
        have e1 : wk.cell? ⟨wo.heap.size, 1, none⟩ = some (.slice (some ad3) y.f1.length yc) := (cell_blk HE.out 1).trans rfl
        by_cases hz : y.f1.length = 0
        ·exfalso; omega
        ·have hzi : (0 : Int) < (y.f1.length : Int) := by omega
         have hzn : 0 < y.f1.length := by omega
         clear hz
         obtain ⟨u0, hu0'⟩ : ∃ u, y.f1[0]? = some u := ⟨_, List.getElem?_eq_getElem (by omega)⟩
         obtain ⟨ad3, hY, hu1⟩ := atStr (Kd.C_below hyv HW.out) 0 u0 hu0'
         cases hY
         rw [addr_add0] at hu1
         have hu0s : u0.size ≤ 100000 := by have := hyq.2.2 u0 (List.mem_of_getElem? hu0'); omega
         have hu0 := hI hu0'
         clear hu0'
         cases hab : q.absent with
         | true =>
          rw [hab] at f1
          have H8 := hI hab
          clear hab
          go_quiet (fail)
          generalize hwd : World.drewN wk nq = wd
          have hbk : Below wk.heap.size wk wd := (by rw [← hwd]; exact below_drewN (Below.refl _ _) _)
          clear hwd
          have HC := hI (below_blk hbk HC.out)
          have HO := hI (HO.out.trans (Only.of_below hbk))
          clear hbk
          go_wp2
          go_ret
          exact ⟨o5, false, rfl, HC.out, HO.out, fun h => by have h9 := (HL.out h).2.2.2; rw [H8.out] at h9; cases h9⟩
         | false =>
          rw [hab] at f1
          have H8 := hI hab
          clear hab
          have hrv : o5 = false → false = false ∧ paramGet p.f1 q.name = u0 ∧ ¬ u0 = { data := #[] } := fun h => by
           obtain ⟨u, h3, h4⟩ := (HL.out h).2.2.1
           have h2 := (HL.out h).2.1
           have h5 : u = u0 := by rw [hu0.out] at h3; injection h3 with h3; exact h3.symm
           subst h5
           exact ⟨(HL.out h).1, paramGet_first p.f1 q.name k y u hyp.out.1 hyp.out.2 HN.out (by
            cases hl : y.f1 with
            | nil => rw [hl] at h2; simp at h2
            | cons a b =>
             rw [hl] at h2 h3
             simp at h2 h3
             rw [h2, h3]), h4⟩
          have HR := hI hrv
          clear hrv
          cases htx : q.text with
          | none =>
           obtain rfl : qp = none := by have := HT.out; rw [htx] at this; exact this
           have H9 := hI htx
           clear htx
           go_quiet (fail)
           generalize hwd : World.drewN wk nq = wd
           have hbk : Below wk.heap.size wk wd := (by rw [← hwd]; exact below_drewN (Below.refl _ _) _)
           clear hwd
           have HC := hI (below_blk hbk HC.out)
           have HO := hI (HO.out.trans (Only.of_below hbk))
           clear hbk
           go_wp2
           go_ret
           exact ⟨o5, true, rfl, HC.out, HO.out, fun h => ⟨by first | rfl | exact (HR.out h).1, by unfold paramV; rw [(HR.out h).2.1, if_neg (HR.out h).2.2, H8.out, if_neg (by simp), H9.out]⟩⟩
          | some t =>
           obtain ⟨tb, tof, rfl, t0, t1⟩ : ∃ b o : Nat, qp = some ⟨b, o, none⟩ ∧ w0.cell? ⟨b, o, none⟩ = some (.string t.1) ∧ w0.cell? ⟨b, o + 1, none⟩ = some (.bool t.2) := by have := HT.out; rw [htx] at this; exact this
           have htl : t.1.size ≤ 100000 := by have := hts t htx; omega
           have hlt0 : tb < w0.heap.size := World.block_lt_of_cell? w0 ⟨tb, tof, none⟩ t0
           have H9 := hI htx
           have HTT := hI (And.intro t0 t1)
           clear htx t0 t1
           refine start_ (n := 25) (S := fun W => W.cell? ⟨w.heap.size, 1, none⟩ = some (.bool false) ∧ W.cell? ⟨w.heap.size, 2, none⟩ = some (.pointer (some ⟨tb, tof, none⟩)) ∧ W.cell? ⟨wo.heap.size, 1, none⟩ = some (.slice (some ad3) y.f1.length yc) ∧ W.cell? ad3 = some (.string u0)) (ds := [21]) (bM 25 0) (by kernel_rfl) rfl (by kernel_rfl) ⟨f1, f2, e1, hu1⟩ (fun hHeld => ?_)
           have HC := hI (show wk.drew.heap[O]? = _ from HC.out)
           have HO := hI (show Only [O] w wk.drew from HO.out.drew)
           have HW := hI (show Below w0.heap.size w0 wk.drew from HW.out.drew)
           generalize wk.drew = wj at HC HO HW hHeld ⊢
           refine pU 0 25 1 (some 45) rfl rfl (by kernel_rfl) rfl (fun _ => by go_simp; with_reducible rfl) (by simp only [sW]; rfl) ?_
           refine tA 1 25 3 (some 46) rfl rfl (by kernel_rfl) rfl (fun _ ⟨s0, s1, s2, s3⟩ => by go_simp; with_reducible rfl) hHeld (by simp only [sW]; rfl) ?_
           refine pU 2 25 7 (some 47) rfl rfl (by kernel_rfl) rfl (fun _ => by go_simp; with_reducible rfl) (by simp only [sW]; rfl) ?_
           refine pU 3 25 15 (some 48) rfl rfl (by kernel_rfl) rfl (fun _ => by go_simp; with_reducible rfl) (by simp only [sW]; rfl) ?_
           refine pU 4 25 31 (some 49) rfl rfl (by kernel_rfl) rfl (fun _ => by go_simp; with_reducible rfl) (by simp only [sW]; rfl) ?_
           refine pU 5 25 63 (some 50) rfl rfl (by kernel_rfl) rfl (fun _ => by go_simp; with_reducible rfl) (by simp only [sW]; rfl) ?_
           refine tA 6 25 127 (some 51) rfl rfl (by kernel_rfl) rfl (fun _ ⟨s0, s1, s2, s3⟩ => by go_simp; with_reducible rfl) hHeld (by simp only [sW]; rfl) ?_
           refine pU 7 25 255 (some 52) rfl rfl (by kernel_rfl) rfl (fun _ => by go_simp; with_reducible rfl) (by simp only [sW]; rfl) ?_
           refine pU 8 25 511 (some 53) rfl rfl (by kernel_rfl) rfl (fun _ => by go_simp; with_reducible rfl) (by simp only [sW]; rfl) ?_
           refine pU 9 25 1023 (some 54) rfl rfl (by kernel_rfl) rfl (fun _ => by go_simp; with_reducible rfl) (by simp only [sW]; rfl) ?_
           refine pU 10 25 2047 (some 55) rfl rfl (by kernel_rfl) rfl (fun _ => by go_simp; with_reducible rfl) (by simp only [sW]; rfl) ?_
           refine tA 11 25 4095 (some 56) rfl rfl (by kernel_rfl) rfl (fun _ ⟨s0, s1, s2, s3⟩ => by go_simp; with_reducible rfl) hHeld (by simp only [sW]; rfl) ?_
           refine pU 12 25 8191 (some 57) rfl rfl (by kernel_rfl) rfl (fun _ => by go_simp; with_reducible rfl) (by simp only [sW]; rfl) ?_
           refine pU 13 25 16383 (some 58) rfl rfl (by kernel_rfl) rfl (fun _ => by go_simp; with_reducible rfl) (by simp only [sW]; rfl) ?_
           refine pU 14 25 32767 (some 59) rfl rfl (by kernel_rfl) rfl (fun _ => by go_simp; with_reducible rfl) (by simp only [sW]; rfl) ?_
           refine pU 15 25 65535 (some 60) rfl rfl (by kernel_rfl) rfl (fun _ => by go_simp; with_reducible rfl) (by simp only [sW]; rfl) ?_
           refine tA 16 25 131071 (some 61) rfl rfl (by kernel_rfl) rfl (fun _ ⟨s0, s1, s2, s3⟩ => by go_simp; with_reducible rfl) hHeld (by simp only [sW]; rfl) ?_
           refine pU 17 25 262143 (some 62) rfl rfl (by kernel_rfl) rfl (fun _ => by go_simp; with_reducible rfl) (by simp only [sW]; rfl) ?_
           refine tA 18 25 524287 (some 63) rfl rfl (by kernel_rfl) rfl (fun _ ⟨s0, s1, s2, s3⟩ => by go_simp; with_reducible rfl) hHeld (by simp only [sW]; rfl) ?_
           refine pU 19 25 1048575 (some 64) rfl rfl (by kernel_rfl) rfl (fun _ => by go_simp; with_reducible rfl) (by simp only [sW]; rfl) ?_
           refine tA 20 25 2097151 (some 65) rfl rfl (by kernel_rfl) rfl (fun _ ⟨s0, s1, s2, s3⟩ => by go_simp; with_reducible rfl) hHeld (by simp only [sW]; rfl) ?_
           refine lA 21 25 4194303 (some 66) rfl rfl (by kernel_rfl) (by decide) (fun K hK => ?_)
           refine goes_ Tryz.func109 (by kernel_rfl) rfl #[.pointer (some ⟨O, 0, none⟩), .pointer (some ⟨tb, tof, none⟩), .string u0] (by rfl) rfl rfl (by (try simp only [List.map_toArray, List.map_cons, List.map_nil]); first | done | rfl | (simp only [List.length_drop, List.length_take]; rfl)) ?_; refine (seenText wj O tb tof o5 t u0 HC.out (pw_cell_below HW.out HTT.out.1) (pw_cell_below HW.out HTT.out.2) (by omega) hu0s htl).mono ?_
           rintro _ w9 ⟨o', v, rfl, hC9, hO9, hR9⟩
           refine ⟨_, rfl, ?_⟩
           have HC := hI hC9
           have HO := hI (HO.out.trans hO9)
           have HR9 := hI hR9
           clear hC9 hO9 hR9
           refine hK.out _ _ ?_
           clear hK K
           refine norm_ (by show Act.put _ (some 66) _ = _; simp only [sW]; rfl) ?_
           refine pU 22 25 8388607 (some 67) rfl rfl (by kernel_rfl) rfl (fun _ => by go_simp; with_reducible rfl) (by simp only [sW]; rfl) ?_
           refine pU 23 25 16777215 (some 68) rfl rfl (by kernel_rfl) rfl (fun _ => by go_simp; with_reducible rfl) (by simp only [sW]; rfl) ?_
           refine pU 24 25 33554431 (some 6) rfl rfl (by kernel_rfl) rfl (fun _ => by go_simp; with_reducible rfl) (by simp only [sW]; rfl) ?_
           refine done_ (by kernel_rfl) ?_
           go_wp2
           go_ret
           refine ⟨o', v, rfl, HC.out, HO.out, fun h => ?_⟩
           obtain ⟨h1, h2⟩ := HR9.out h
           exact ⟨by first | rfl | exact (HR.out h1).1, by rw [h2]; unfold paramV; rw [(HR.out h1).2.1, if_neg (HR.out h1).2.2, H8.out, if_neg (by simp), H9.out]⟩
        all_goals (exfalso; have := HL1.out; omega)
       | false =>
        replace hq1 : ∀ ob, (wo.alloc ob).cell? ⟨w.heap.size, 1, none⟩ = some (.bool false) := fun ob => by rw [hq1, hab0]
        have HAB := hI hab0
        clear hab0
        go_wp2_with fail
        obtain ⟨o5, ho5⟩ : ∃ o5, o5 = false := ⟨_, rfl⟩
        have hC : ((wo.setCell ⟨O, 0, none⟩ (.bool false)).alloc (.cells #[.string y.f0, .slice (some ad3) y.f1.length yc] 151)).heap[O]? = some (.cells #[.bool o5] 85) := by rw [ho5]; exact old_blk (set_blk HC.out 0 (.bool false)) (.cells #[.string y.f0, .slice (some ad3) y.f1.length yc] 151)
        have hsz5 : (wo.setCell ⟨O, 0, none⟩ (.bool false)).heap.size = wo.heap.size := by simp [World.setCell]
        have hE := new_blk (wo.setCell ⟨O, 0, none⟩ (.bool false)) (.cells #[.string y.f0, .slice (some ad3) y.f1.length yc] 151)
        rw [hsz5] at hE
        have hF := old_blk ((Below.heap_setCell wo ⟨O, 0, none⟩ (.bool false) w.heap.size (by show w.heap.size ≠ O; omega)).trans HF.out) (.cells #[.string y.f0, .slice (some ad3) y.f1.length yc] 151)
        have hO5 := ((HO.out.setCell (p := ⟨O, 0, none⟩) (by simp) (.bool false)).alloc (.cells #[.string y.f0, .slice (some ad3) y.f1.length yc] 151))
        have hW5 : Below w0.heap.size w0 ((wo.setCell ⟨O, 0, none⟩ (.bool false)).alloc (.cells #[.string y.f0, .slice (some ad3) y.f1.length yc] 151)) := (hbo.setCell (p := ⟨O, 0, none⟩) (by show w0.heap.size ≤ O; omega) (.bool false)).alloc (by rw [hsz5]; exact hbo.size) (.cells #[.string y.f0, .slice (some ad3) y.f1.length yc] 151)
        have hl5 : (o5 = false → false = false ∧ y.f1.length = 1 ∧ (∃ u, y.f1[0]? = some u ∧ ¬ u = { data := #[] }) ∧ q.absent = false) := fun _ => ⟨rfl, HV0.out.2.1, ⟨v0, HV0.out.1, HV0.out.2.2⟩, HAB.out⟩
        generalize ((wo.setCell ⟨O, 0, none⟩ (.bool false)).alloc (.cells #[.string y.f0, .slice (some ad3) y.f1.length yc] 151)) = wk at hC hE hF hO5 hW5 ⊢
        have HC := hI hC
        have HE := hI hE
        have HF := hI hF
        have HO := hI hO5
        have HW := hI hW5
        have HL := hI hl5
        clear hC hE hF hO5 hW5 hl5 hsz5 ho5
        have f1 : wk.cell? ⟨w.heap.size, 1, none⟩ = some (.bool q.absent) := (cell_blk HF.out 1).trans rfl
        have f2 : wk.cell? ⟨w.heap.size, 2, none⟩ = some (.pointer qp) := (cell_blk HF.out 2).trans rfl
        have e1 : wk.cell? ⟨wo.heap.size, 1, none⟩ = some (.slice (some ad3) y.f1.length yc) := (cell_blk HE.out 1).trans rfl
        by_cases hz : y.f1.length = 0
        ·exfalso; omega
        ·have hzi : (0 : Int) < (y.f1.length : Int) := by omega
         have hzn : 0 < y.f1.length := by omega
         clear hz
         obtain ⟨u0, hu0'⟩ : ∃ u, y.f1[0]? = some u := ⟨_, List.getElem?_eq_getElem (by omega)⟩
         obtain ⟨ad3, hY, hu1⟩ := atStr (Kd.C_below hyv HW.out) 0 u0 hu0'
         cases hY
         rw [addr_add0] at hu1
         have hu0s : u0.size ≤ 100000 := by have := hyq.2.2 u0 (List.mem_of_getElem? hu0'); omega
         have hu0 := hI hu0'
         clear hu0'
         cases hab : q.absent with
         | true =>
          rw [hab] at f1
          have H8 := hI hab
          clear hab
          go_quiet (fail)
          generalize hwd : World.drewN wk nq = wd
          have hbk : Below wk.heap.size wk wd := (by rw [← hwd]; exact below_drewN (Below.refl _ _) _)
          clear hwd
          have HC := hI (below_blk hbk HC.out)
          have HO := hI (HO.out.trans (Only.of_below hbk))
          clear hbk
          go_wp2
          go_ret
          exact ⟨o5, false, rfl, HC.out, HO.out, fun h => by have h9 := (HL.out h).2.2.2; rw [H8.out] at h9; cases h9⟩
         | false =>
          rw [hab] at f1
          have H8 := hI hab
          clear hab
          have hrv : o5 = false → false = false ∧ paramGet p.f1 q.name = u0 ∧ ¬ u0 = { data := #[] } := fun h => by
           obtain ⟨u, h3, h4⟩ := (HL.out h).2.2.1
           have h2 := (HL.out h).2.1
           have h5 : u = u0 := by rw [hu0.out] at h3; injection h3 with h3; exact h3.symm
           subst h5
           exact ⟨(HL.out h).1, paramGet_first p.f1 q.name k y u hyp.out.1 hyp.out.2 HN.out (by
            cases hl : y.f1 with
            | nil => rw [hl] at h2; simp at h2
            | cons a b =>
             rw [hl] at h2 h3
             simp at h2 h3
             rw [h2, h3]), h4⟩
          have HR := hI hrv
          clear hrv
          cases htx : q.text with
          | none =>
           obtain rfl : qp = none := by have := HT.out; rw [htx] at this; exact this
           have H9 := hI htx
           clear htx
           go_quiet (fail)
           generalize hwd : World.drewN wk nq = wd
           have hbk : Below wk.heap.size wk wd := (by rw [← hwd]; exact below_drewN (Below.refl _ _) _)
           clear hwd
           have HC := hI (below_blk hbk HC.out)
           have HO := hI (HO.out.trans (Only.of_below hbk))
           clear hbk
           go_wp2
           go_ret
           exact ⟨o5, true, rfl, HC.out, HO.out, fun h => ⟨by first | rfl | exact (HR.out h).1, by unfold paramV; rw [(HR.out h).2.1, if_neg (HR.out h).2.2, H8.out, if_neg (by simp), H9.out]⟩⟩
          | some t =>
           obtain ⟨tb, tof, rfl, t0, t1⟩ : ∃ b o : Nat, qp = some ⟨b, o, none⟩ ∧ w0.cell? ⟨b, o, none⟩ = some (.string t.1) ∧ w0.cell? ⟨b, o + 1, none⟩ = some (.bool t.2) := by have := HT.out; rw [htx] at this; exact this
           have htl : t.1.size ≤ 100000 := by have := hts t htx; omega
           have hlt0 : tb < w0.heap.size := World.block_lt_of_cell? w0 ⟨tb, tof, none⟩ t0
           have H9 := hI htx
           have HTT := hI (And.intro t0 t1)
           clear htx t0 t1
           refine start_ (n := 25) (S := fun W => W.cell? ⟨w.heap.size, 1, none⟩ = some (.bool false) ∧ W.cell? ⟨w.heap.size, 2, none⟩ = some (.pointer (some ⟨tb, tof, none⟩)) ∧ W.cell? ⟨wo.heap.size, 1, none⟩ = some (.slice (some ad3) y.f1.length yc) ∧ W.cell? ad3 = some (.string u0)) (ds := [21]) (bM 25 0) (by kernel_rfl) rfl (by kernel_rfl) ⟨f1, f2, e1, hu1⟩ (fun hHeld => ?_)
           have HC := hI (show wk.drew.heap[O]? = _ from HC.out)
           have HO := hI (show Only [O] w wk.drew from HO.out.drew)
           have HW := hI (show Below w0.heap.size w0 wk.drew from HW.out.drew)
           generalize wk.drew = wj at HC HO HW hHeld ⊢
           refine pU 0 25 1 (some 45) rfl rfl (by kernel_rfl) rfl (fun _ => by go_simp; with_reducible rfl) (by simp only [sW]; rfl) ?_
           refine tA 1 25 3 (some 46) rfl rfl (by kernel_rfl) rfl (fun _ ⟨s0, s1, s2, s3⟩ => by go_simp; with_reducible rfl) hHeld (by simp only [sW]; rfl) ?_
           refine pU 2 25 7 (some 47) rfl rfl (by kernel_rfl) rfl (fun _ => by go_simp; with_reducible rfl) (by simp only [sW]; rfl) ?_
           refine pU 3 25 15 (some 48) rfl rfl (by kernel_rfl) rfl (fun _ => by go_simp; with_reducible rfl) (by simp only [sW]; rfl) ?_
           refine pU 4 25 31 (some 49) rfl rfl (by kernel_rfl) rfl (fun _ => by go_simp; with_reducible rfl) (by simp only [sW]; rfl) ?_
           refine pU 5 25 63 (some 50) rfl rfl (by kernel_rfl) rfl (fun _ => by go_simp; with_reducible rfl) (by simp only [sW]; rfl) ?_
           refine tA 6 25 127 (some 51) rfl rfl (by kernel_rfl) rfl (fun _ ⟨s0, s1, s2, s3⟩ => by go_simp; with_reducible rfl) hHeld (by simp only [sW]; rfl) ?_
           refine pU 7 25 255 (some 52) rfl rfl (by kernel_rfl) rfl (fun _ => by go_simp; with_reducible rfl) (by simp only [sW]; rfl) ?_
           refine pU 8 25 511 (some 53) rfl rfl (by kernel_rfl) rfl (fun _ => by go_simp; with_reducible rfl) (by simp only [sW]; rfl) ?_
           refine pU 9 25 1023 (some 54) rfl rfl (by kernel_rfl) rfl (fun _ => by go_simp; with_reducible rfl) (by simp only [sW]; rfl) ?_
           refine pU 10 25 2047 (some 55) rfl rfl (by kernel_rfl) rfl (fun _ => by go_simp; with_reducible rfl) (by simp only [sW]; rfl) ?_
           refine tA 11 25 4095 (some 56) rfl rfl (by kernel_rfl) rfl (fun _ ⟨s0, s1, s2, s3⟩ => by go_simp; with_reducible rfl) hHeld (by simp only [sW]; rfl) ?_
           refine pU 12 25 8191 (some 57) rfl rfl (by kernel_rfl) rfl (fun _ => by go_simp; with_reducible rfl) (by simp only [sW]; rfl) ?_
           refine pU 13 25 16383 (some 58) rfl rfl (by kernel_rfl) rfl (fun _ => by go_simp; with_reducible rfl) (by simp only [sW]; rfl) ?_
           refine pU 14 25 32767 (some 59) rfl rfl (by kernel_rfl) rfl (fun _ => by go_simp; with_reducible rfl) (by simp only [sW]; rfl) ?_
           refine pU 15 25 65535 (some 60) rfl rfl (by kernel_rfl) rfl (fun _ => by go_simp; with_reducible rfl) (by simp only [sW]; rfl) ?_
           refine tA 16 25 131071 (some 61) rfl rfl (by kernel_rfl) rfl (fun _ ⟨s0, s1, s2, s3⟩ => by go_simp; with_reducible rfl) hHeld (by simp only [sW]; rfl) ?_
           refine pU 17 25 262143 (some 62) rfl rfl (by kernel_rfl) rfl (fun _ => by go_simp; with_reducible rfl) (by simp only [sW]; rfl) ?_
           refine tA 18 25 524287 (some 63) rfl rfl (by kernel_rfl) rfl (fun _ ⟨s0, s1, s2, s3⟩ => by go_simp; with_reducible rfl) hHeld (by simp only [sW]; rfl) ?_
           refine pU 19 25 1048575 (some 64) rfl rfl (by kernel_rfl) rfl (fun _ => by go_simp; with_reducible rfl) (by simp only [sW]; rfl) ?_
           refine tA 20 25 2097151 (some 65) rfl rfl (by kernel_rfl) rfl (fun _ ⟨s0, s1, s2, s3⟩ => by go_simp; with_reducible rfl) hHeld (by simp only [sW]; rfl) ?_
           refine lA 21 25 4194303 (some 66) rfl rfl (by kernel_rfl) (by decide) (fun K hK => ?_)
           refine goes_ Tryz.func109 (by kernel_rfl) rfl #[.pointer (some ⟨O, 0, none⟩), .pointer (some ⟨tb, tof, none⟩), .string u0] (by rfl) rfl rfl (by (try simp only [List.map_toArray, List.map_cons, List.map_nil]); first | done | rfl | (simp only [List.length_drop, List.length_take]; rfl)) ?_; refine (seenText wj O tb tof o5 t u0 HC.out (pw_cell_below HW.out HTT.out.1) (pw_cell_below HW.out HTT.out.2) (by omega) hu0s htl).mono ?_
           rintro _ w9 ⟨o', v, rfl, hC9, hO9, hR9⟩
           refine ⟨_, rfl, ?_⟩
           have HC := hI hC9
           have HO := hI (HO.out.trans hO9)
           have HR9 := hI hR9
           clear hC9 hO9 hR9
           refine hK.out _ _ ?_
           clear hK K
           refine norm_ (by show Act.put _ (some 66) _ = _; simp only [sW]; rfl) ?_
           refine pU 22 25 8388607 (some 67) rfl rfl (by kernel_rfl) rfl (fun _ => by go_simp; with_reducible rfl) (by simp only [sW]; rfl) ?_
           refine pU 23 25 16777215 (some 68) rfl rfl (by kernel_rfl) rfl (fun _ => by go_simp; with_reducible rfl) (by simp only [sW]; rfl) ?_
           refine pU 24 25 33554431 (some 6) rfl rfl (by kernel_rfl) rfl (fun _ => by go_simp; with_reducible rfl) (by simp only [sW]; rfl) ?_
           refine done_ (by kernel_rfl) ?_
           go_wp2
           go_ret
           refine ⟨o', v, rfl, HC.out, HO.out, fun h => ?_⟩
           obtain ⟨h1, h2⟩ := HR9.out h
           exact ⟨by first | rfl | exact (HR.out h1).1, by rw [h2]; unfold paramV; rw [(HR.out h1).2.1, if_neg (HR.out h1).2.2, H8.out, if_neg (by simp), H9.out]⟩
        all_goals (exfalso; have := HL1.out; omega)
     ·have hl1i : ((y.f1.length : Int) == 1) = false := by rw [beq_eq_false_iff_ne]; omega
      go_wp2_with fail
      obtain ⟨o5, ho5⟩ : ∃ o5, o5 = true := ⟨_, rfl⟩
      have hC : ((wo.setCell ⟨O, 0, none⟩ (.bool true)).alloc (.cells #[.string y.f0, .slice Y y.f1.length yc] 151)).heap[O]? = some (.cells #[.bool o5] 85) := by rw [ho5]; exact old_blk (set_blk HC.out 0 (.bool true)) (.cells #[.string y.f0, .slice Y y.f1.length yc] 151)
      have hsz5 : (wo.setCell ⟨O, 0, none⟩ (.bool true)).heap.size = wo.heap.size := by simp [World.setCell]
      have hE := new_blk (wo.setCell ⟨O, 0, none⟩ (.bool true)) (.cells #[.string y.f0, .slice Y y.f1.length yc] 151)
      rw [hsz5] at hE
      have hF := old_blk ((Below.heap_setCell wo ⟨O, 0, none⟩ (.bool true) w.heap.size (by show w.heap.size ≠ O; omega)).trans HF.out) (.cells #[.string y.f0, .slice Y y.f1.length yc] 151)
      have hO5 := ((HO.out.setCell (p := ⟨O, 0, none⟩) (by simp) (.bool true)).alloc (.cells #[.string y.f0, .slice Y y.f1.length yc] 151))
      have hW5 : Below w0.heap.size w0 ((wo.setCell ⟨O, 0, none⟩ (.bool true)).alloc (.cells #[.string y.f0, .slice Y y.f1.length yc] 151)) := (hbo.setCell (p := ⟨O, 0, none⟩) (by show w0.heap.size ≤ O; omega) (.bool true)).alloc (by rw [hsz5]; exact hbo.size) (.cells #[.string y.f0, .slice Y y.f1.length yc] 151)
      have hl5 : (o5 = false → false = false ∧ y.f1.length = 1 ∧ (∃ u, y.f1[0]? = some u ∧ ¬ u = { data := #[] }) ∧ q.absent = false) := fun h => by rw [ho5] at h; cases h
      generalize ((wo.setCell ⟨O, 0, none⟩ (.bool true)).alloc (.cells #[.string y.f0, .slice Y y.f1.length yc] 151)) = wk at hC hE hF hO5 hW5 ⊢
      have HC := hI hC
      have HE := hI hE
      have HF := hI hF
      have HO := hI hO5
      have HW := hI hW5
      have HL := hI hl5
      clear hC hE hF hO5 hW5 hl5 hsz5 ho5
      have f1 : wk.cell? ⟨w.heap.size, 1, none⟩ = some (.bool q.absent) := (cell_blk HF.out 1).trans rfl
      have f2 : wk.cell? ⟨w.heap.size, 2, none⟩ = some (.pointer qp) := (cell_blk HF.out 2).trans rfl
      have e1 : wk.cell? ⟨wo.heap.size, 1, none⟩ = some (.slice Y y.f1.length yc) := (cell_blk HE.out 1).trans rfl
      by_cases hz : y.f1.length = 0
      ·have hzi : ¬ (0 : Int) < (y.f1.length : Int) := by omega
       have hzn : ¬ 0 < y.f1.length := by omega
       have HZ := hI hz
       clear hz
       go_quiet (fail)
       generalize hwd : World.drewN wk nq = wd
       have hbk : Below wk.heap.size wk wd := (by rw [← hwd]; exact below_drewN (Below.refl _ _) _)
       clear hwd
       have HC := hI (below_blk hbk HC.out)
       have HO := hI (HO.out.trans (Only.of_below hbk))
       clear hbk
       go_wp2
       go_ret
       exact ⟨o5, false, rfl, HC.out, HO.out, fun h => by have := (HL.out h).2.1; have := HZ.out; omega⟩
      ·have hzi : (0 : Int) < (y.f1.length : Int) := by omega
       have hzn : 0 < y.f1.length := by omega
       clear hz
       obtain ⟨u0, hu0'⟩ : ∃ u, y.f1[0]? = some u := ⟨_, List.getElem?_eq_getElem (by omega)⟩
       obtain ⟨ad3, hY, hu1⟩ := atStr (Kd.C_below hyv HW.out) 0 u0 hu0'
       cases hY
       rw [addr_add0] at hu1
       have hu0s : u0.size ≤ 100000 := by have := hyq.2.2 u0 (List.mem_of_getElem? hu0'); omega
       have hu0 := hI hu0'
       clear hu0'
       cases hab : q.absent with
       | true =>
        rw [hab] at f1
        have H8 := hI hab
        clear hab
        go_quiet (fail)
        generalize hwd : World.drewN wk nq = wd
        have hbk : Below wk.heap.size wk wd := (by rw [← hwd]; exact below_drewN (Below.refl _ _) _)
        clear hwd
        have HC := hI (below_blk hbk HC.out)
        have HO := hI (HO.out.trans (Only.of_below hbk))
        clear hbk
        go_wp2
        go_ret
        exact ⟨o5, false, rfl, HC.out, HO.out, fun h => by have h9 := (HL.out h).2.2.2; rw [H8.out] at h9; cases h9⟩
       | false =>
        rw [hab] at f1
        have H8 := hI hab
        clear hab
        have hrv : o5 = false → false = false ∧ paramGet p.f1 q.name = u0 ∧ ¬ u0 = { data := #[] } := fun h => by
         obtain ⟨u, h3, h4⟩ := (HL.out h).2.2.1
         have h2 := (HL.out h).2.1
         have h5 : u = u0 := by rw [hu0.out] at h3; injection h3 with h3; exact h3.symm
         subst h5
         exact ⟨(HL.out h).1, paramGet_first p.f1 q.name k y u hyp.out.1 hyp.out.2 HN.out (by
          cases hl : y.f1 with
          | nil => rw [hl] at h2; simp at h2
          | cons a b =>
           rw [hl] at h2 h3
           simp at h2 h3
           rw [h2, h3]), h4⟩
        have HR := hI hrv
        clear hrv
        cases htx : q.text with
        | none =>
         obtain rfl : qp = none := by have := HT.out; rw [htx] at this; exact this
         have H9 := hI htx
         clear htx
         go_quiet (fail)
         generalize hwd : World.drewN wk nq = wd
         have hbk : Below wk.heap.size wk wd := (by rw [← hwd]; exact below_drewN (Below.refl _ _) _)
         clear hwd
         have HC := hI (below_blk hbk HC.out)
         have HO := hI (HO.out.trans (Only.of_below hbk))
         clear hbk
         go_wp2
         go_ret
         exact ⟨o5, true, rfl, HC.out, HO.out, fun h => ⟨by first | rfl | exact (HR.out h).1, by unfold paramV; rw [(HR.out h).2.1, if_neg (HR.out h).2.2, H8.out, if_neg (by simp), H9.out]⟩⟩
        | some t =>
         obtain ⟨tb, tof, rfl, t0, t1⟩ : ∃ b o : Nat, qp = some ⟨b, o, none⟩ ∧ w0.cell? ⟨b, o, none⟩ = some (.string t.1) ∧ w0.cell? ⟨b, o + 1, none⟩ = some (.bool t.2) := by have := HT.out; rw [htx] at this; exact this
         have htl : t.1.size ≤ 100000 := by have := hts t htx; omega
         have hlt0 : tb < w0.heap.size := World.block_lt_of_cell? w0 ⟨tb, tof, none⟩ t0
         have H9 := hI htx
         have HTT := hI (And.intro t0 t1)
         clear htx t0 t1
         refine start_ (n := 25) (S := fun W => W.cell? ⟨w.heap.size, 1, none⟩ = some (.bool false) ∧ W.cell? ⟨w.heap.size, 2, none⟩ = some (.pointer (some ⟨tb, tof, none⟩)) ∧ W.cell? ⟨wo.heap.size, 1, none⟩ = some (.slice (some ad3) y.f1.length yc) ∧ W.cell? ad3 = some (.string u0)) (ds := [21]) (bM 25 0) (by kernel_rfl) rfl (by kernel_rfl) ⟨f1, f2, e1, hu1⟩ (fun hHeld => ?_)
         have HC := hI (show wk.drew.heap[O]? = _ from HC.out)
         have HO := hI (show Only [O] w wk.drew from HO.out.drew)
         have HW := hI (show Below w0.heap.size w0 wk.drew from HW.out.drew)
         generalize wk.drew = wj at HC HO HW hHeld ⊢
         refine pU 0 25 1 (some 45) rfl rfl (by kernel_rfl) rfl (fun _ => by go_simp; with_reducible rfl) (by simp only [sW]; rfl) ?_
         refine tA 1 25 3 (some 46) rfl rfl (by kernel_rfl) rfl (fun _ ⟨s0, s1, s2, s3⟩ => by go_simp; with_reducible rfl) hHeld (by simp only [sW]; rfl) ?_
         refine pU 2 25 7 (some 47) rfl rfl (by kernel_rfl) rfl (fun _ => by go_simp; with_reducible rfl) (by simp only [sW]; rfl) ?_
         refine pU 3 25 15 (some 48) rfl rfl (by kernel_rfl) rfl (fun _ => by go_simp; with_reducible rfl) (by simp only [sW]; rfl) ?_
         refine pU 4 25 31 (some 49) rfl rfl (by kernel_rfl) rfl (fun _ => by go_simp; with_reducible rfl) (by simp only [sW]; rfl) ?_
         refine pU 5 25 63 (some 50) rfl rfl (by kernel_rfl) rfl (fun _ => by go_simp; with_reducible rfl) (by simp only [sW]; rfl) ?_
         refine tA 6 25 127 (some 51) rfl rfl (by kernel_rfl) rfl (fun _ ⟨s0, s1, s2, s3⟩ => by go_simp; with_reducible rfl) hHeld (by simp only [sW]; rfl) ?_
         refine pU 7 25 255 (some 52) rfl rfl (by kernel_rfl) rfl (fun _ => by go_simp; with_reducible rfl) (by simp only [sW]; rfl) ?_
         refine pU 8 25 511 (some 53) rfl rfl (by kernel_rfl) rfl (fun _ => by go_simp; with_reducible rfl) (by simp only [sW]; rfl) ?_
         refine pU 9 25 1023 (some 54) rfl rfl (by kernel_rfl) rfl (fun _ => by go_simp; with_reducible rfl) (by simp only [sW]; rfl) ?_
         refine pU 10 25 2047 (some 55) rfl rfl (by kernel_rfl) rfl (fun _ => by go_simp; with_reducible rfl) (by simp only [sW]; rfl) ?_
         refine tA 11 25 4095 (some 56) rfl rfl (by kernel_rfl) rfl (fun _ ⟨s0, s1, s2, s3⟩ => by go_simp; with_reducible rfl) hHeld (by simp only [sW]; rfl) ?_
         refine pU 12 25 8191 (some 57) rfl rfl (by kernel_rfl) rfl (fun _ => by go_simp; with_reducible rfl) (by simp only [sW]; rfl) ?_
         refine pU 13 25 16383 (some 58) rfl rfl (by kernel_rfl) rfl (fun _ => by go_simp; with_reducible rfl) (by simp only [sW]; rfl) ?_
         refine pU 14 25 32767 (some 59) rfl rfl (by kernel_rfl) rfl (fun _ => by go_simp; with_reducible rfl) (by simp only [sW]; rfl) ?_
         refine pU 15 25 65535 (some 60) rfl rfl (by kernel_rfl) rfl (fun _ => by go_simp; with_reducible rfl) (by simp only [sW]; rfl) ?_
         refine tA 16 25 131071 (some 61) rfl rfl (by kernel_rfl) rfl (fun _ ⟨s0, s1, s2, s3⟩ => by go_simp; with_reducible rfl) hHeld (by simp only [sW]; rfl) ?_
         refine pU 17 25 262143 (some 62) rfl rfl (by kernel_rfl) rfl (fun _ => by go_simp; with_reducible rfl) (by simp only [sW]; rfl) ?_
         refine tA 18 25 524287 (some 63) rfl rfl (by kernel_rfl) rfl (fun _ ⟨s0, s1, s2, s3⟩ => by go_simp; with_reducible rfl) hHeld (by simp only [sW]; rfl) ?_
         refine pU 19 25 1048575 (some 64) rfl rfl (by kernel_rfl) rfl (fun _ => by go_simp; with_reducible rfl) (by simp only [sW]; rfl) ?_
         refine tA 20 25 2097151 (some 65) rfl rfl (by kernel_rfl) rfl (fun _ ⟨s0, s1, s2, s3⟩ => by go_simp; with_reducible rfl) hHeld (by simp only [sW]; rfl) ?_
         refine lA 21 25 4194303 (some 66) rfl rfl (by kernel_rfl) (by decide) (fun K hK => ?_)
         refine goes_ Tryz.func109 (by kernel_rfl) rfl #[.pointer (some ⟨O, 0, none⟩), .pointer (some ⟨tb, tof, none⟩), .string u0] (by rfl) rfl rfl (by (try simp only [List.map_toArray, List.map_cons, List.map_nil]); first | done | rfl | (simp only [List.length_drop, List.length_take]; rfl)) ?_; refine (seenText wj O tb tof o5 t u0 HC.out (pw_cell_below HW.out HTT.out.1) (pw_cell_below HW.out HTT.out.2) (by omega) hu0s htl).mono ?_
         rintro _ w9 ⟨o', v, rfl, hC9, hO9, hR9⟩
         refine ⟨_, rfl, ?_⟩
         have HC := hI hC9
         have HO := hI (HO.out.trans hO9)
         have HR9 := hI hR9
         clear hC9 hO9 hR9
         refine hK.out _ _ ?_
         clear hK K
         refine norm_ (by show Act.put _ (some 66) _ = _; simp only [sW]; rfl) ?_
         refine pU 22 25 8388607 (some 67) rfl rfl (by kernel_rfl) rfl (fun _ => by go_simp; with_reducible rfl) (by simp only [sW]; rfl) ?_
         refine pU 23 25 16777215 (some 68) rfl rfl (by kernel_rfl) rfl (fun _ => by go_simp; with_reducible rfl) (by simp only [sW]; rfl) ?_
         refine pU 24 25 33554431 (some 6) rfl rfl (by kernel_rfl) rfl (fun _ => by go_simp; with_reducible rfl) (by simp only [sW]; rfl) ?_
         refine done_ (by kernel_rfl) ?_
         go_wp2
         go_ret
         refine ⟨o', v, rfl, HC.out, HO.out, fun h => ?_⟩
         obtain ⟨h1, h2⟩ := HR9.out h
         exact ⟨by first | rfl | exact (HR.out h1).1, by rw [h2]; unfold paramV; rw [(HR.out h1).2.1, if_neg (HR.out h1).2.2, H8.out, if_neg (by simp), H9.out]⟩
   ·have hd : (y.f0.toList == q.name.toList) = false := tl_ne hn
    have HN2 : Hid (∀ z ∈ p.f1.take (k + 1), z.f0 ≠ q.name) := hI (by
     rw [take_snoc' _ _ _ hye]
     intro z hz
     rcases List.mem_append.1 hz with h | h
     ·exact HN.out z h
     ·rw [List.mem_singleton.1 h]; exact hn)
    have HF := hI (old_blk HF.out (.cells #[.string y.f0, .slice Y y.f1.length yc] 151))
    have HC := hI (old_blk HC.out (.cells #[.string y.f0, .slice Y y.f1.length yc] 151))
    have HO := hI (HO.out.alloc (.cells #[.string y.f0, .slice Y y.f1.length yc] 151))
    clear hn hye
    go_wp2
    exact ⟨⟨k + 1, by omega, by go_num, by simp; omega, HF, HC, HO, HN2⟩, by simp [RowKit.intOf]; omega⟩
  ·obtain rfl : k = p.f1.length := by omega
   have hN := HN.out
   rw [List.take_length] at hN
   have hg := hI (paramGet_none p.f1 q.name hN)
   have c1 : wo.cell? ⟨w.heap.size, 1, none⟩ = some (.bool q.absent) := (cell_blk HF.out 1).trans rfl
   clear hN HN
   go_wp2
   go_ret
   exact ⟨o, q.absent, rfl, HC.out, HO.out, fun h => ⟨h, by unfold paramV; rw [hg.out, if_pos rfl]⟩⟩
end Go.Proofs.YtcllaplddebilaaGreatDoor

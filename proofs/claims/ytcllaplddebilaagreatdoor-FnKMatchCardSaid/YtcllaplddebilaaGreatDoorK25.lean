/- laws.FnKMatch: a part of the proof: KSpanW. -/
import Derived.Test.YtcllaplddebilaaGreatDoorK18
import Derived.Test.YtcllaplddebilaaGreatDoorK21
import Derived.Test.YtcllaplddebilaaGreatDoorK24
set_option maxRecDepth 1000000
set_option maxHeartbeats 64000000
set_option linter.unusedVariables false
set_option linter.unusedSimpArgs false
namespace Go.Proofs.YtcllaplddebilaaGreatDoor
open Go.RowKit Go.Sort
attribute [local go_sem] cell?_grow frozen?_grow cell?_redrawn frozen?_redrawn size_redrawn size_grow ba_get ba_extract
attribute [local simp] size_redrawn
open Go.Lib Go.Proofs.YtcllaplddebilaaGreatDoorW.PrintWords Go.Proofs.YtcllaplddebilaaGreatDoorW.PrintLast Go.Proofs.YtcllaplddebilaaGreatDoorW.PrintMore PFnKMatch
def KSpanPost (w : World) (f : ByteArray → Option ByteArray) (x : S36) (e : Ending) (w' : World) : Prop := ∃ (a b : Int) (ok : Bool), e = .returned (.tuple #[.int .i64 a, .int .i64 b, .bool ok]) ∧ Below w.heap.size w w' ∧
 (ok = true → x.f0.toList = ([86, 69, 86, 69, 78, 84] : List UInt8) ∧ firstP x.f1 nmRRULE = none ∧ MomO f (firstP x.f1 nmSTART) (some a) ∧ EndO f x.f1 (some b) ∧ spanV x = (a, b) ∧ a ≤ b)
theorem pc1_some {p : S75} {V V' : Option Addr} {cv m v : Nat} (h : pc1 (some (p, V, cv)) = .slice V' m v) : V' = V ∧ m = p.f1.length ∧ v = cv := by
 injection h with h1 h2 h3
 exact ⟨h1.symm, h2.symm, h3.symm⟩
theorem kSpan (w0 w : World) (f : ByteArray → Option ByteArray) (x : S36) (A B : Option Addr) (c c2 : Nat) (hb0 : Below w0.heap.size w0 w) (hx : k75.C w0 A x.f1.length x.f1) (hxo : okC x) (hTab : TabOk f) :
  Calls Tryz.prog 68 #[.agg #[.string x.f0, .slice A x.f1.length c, .slice B x.f2.length c2]] w (KSpanPost w f x) := by
 have HX := hI (new_blk w (.cells #[.string x.f0, .slice A x.f1.length c, .slice B x.f2.length c2] 36))
 have HW := hI (hb0.alloc hb0.size (.cells #[.string x.f0, .slice A x.f1.length c, .slice B x.f2.length c2] 36))
 have HB := hI ((Below.refl w.heap.size w).alloc (Nat.le_refl _) (.cells #[.string x.f0, .slice A x.f1.length c, .slice B x.f2.length c2] 36))
 go_enter Tryz.func68, Tryz.ntmps68
 go_wp2_with fail
 refine (iof_ x A B c c2 nmSTART w0 _ HW.out hx hxo.1).mono ?_
 rintro _ k0 ⟨s0, n0, rfl, hb, hf0, hp0, hn0, hl0, hu0⟩
 obtain ⟨V0, m0, v0, hs0⟩ := pc1_slice s0
 rw [pc_eq s0, hs0]
 replace HX := hI (old_blk (below_blk hb HX.out) (.cells #[.string (pc0 s0), .slice V0 m0 v0, .string (pc2 s0)] 75))
 have HD0 := hI (new_blk k0 (.cells #[.string (pc0 s0), .slice V0 m0 v0, .string (pc2 s0)] 75))
 replace HW := hI ((HW.out.trans (hb.mono HW.out.size)).alloc (Nat.le_trans HW.out.size hb.size) (.cells #[.string (pc0 s0), .slice V0 m0 v0, .string (pc2 s0)] 75))
 replace HB := hI ((HB.out.trans (hb.mono HB.out.size)).alloc (Nat.le_trans HB.out.size hb.size) (.cells #[.string (pc0 s0), .slice V0 m0 v0, .string (pc2 s0)] 75))
 have x0 : (k0.alloc (.cells #[.string (pc0 s0), .slice V0 m0 v0, .string (pc2 s0)] 75)).cell? ⟨w.heap.size, 0, none⟩ = some (.string x.f0) := (cell_blk HX.out 0).trans rfl
 have x1 : (k0.alloc (.cells #[.string (pc0 s0), .slice V0 m0 v0, .string (pc2 s0)] 75)).cell? ⟨w.heap.size, 1, none⟩ = some (.slice A x.f1.length c) := (cell_blk HX.out 1).trans rfl
 have x2 : (k0.alloc (.cells #[.string (pc0 s0), .slice V0 m0 v0, .string (pc2 s0)] 75)).cell? ⟨w.heap.size, 2, none⟩ = some (.slice B x.f2.length c2) := (cell_blk HX.out 2).trans rfl
 have HF0 := hI (And.intro hf0 (And.intro hp0 (And.intro hn0 hs0)))
 clear hb hf0 hp0 hn0 hs0
 go_wp2_with fail
 refine (iof_ x A B c c2 nmEND w0 _ HW.out hx hxo.1).mono ?_
 rintro _ k1 ⟨s1, n1, rfl, hb, hf1, hp1, hn1, hl1, hu1⟩
 obtain ⟨V1, m1, v1, hs1⟩ := pc1_slice s1
 rw [pc_eq s1, hs1]
 replace HX := hI (old_blk (below_blk hb HX.out) (.cells #[.string (pc0 s1), .slice V1 m1 v1, .string (pc2 s1)] 75))
 replace HD0 := hI (old_blk (below_blk hb HD0.out) (.cells #[.string (pc0 s1), .slice V1 m1 v1, .string (pc2 s1)] 75))
 have HD1 := hI (new_blk k1 (.cells #[.string (pc0 s1), .slice V1 m1 v1, .string (pc2 s1)] 75))
 replace HW := hI ((HW.out.trans (hb.mono HW.out.size)).alloc (Nat.le_trans HW.out.size hb.size) (.cells #[.string (pc0 s1), .slice V1 m1 v1, .string (pc2 s1)] 75))
 replace HB := hI ((HB.out.trans (hb.mono HB.out.size)).alloc (Nat.le_trans HB.out.size hb.size) (.cells #[.string (pc0 s1), .slice V1 m1 v1, .string (pc2 s1)] 75))
 clear x0 x1 x2
 have x0 : (k1.alloc (.cells #[.string (pc0 s1), .slice V1 m1 v1, .string (pc2 s1)] 75)).cell? ⟨w.heap.size, 0, none⟩ = some (.string x.f0) := (cell_blk HX.out 0).trans rfl
 have x1 : (k1.alloc (.cells #[.string (pc0 s1), .slice V1 m1 v1, .string (pc2 s1)] 75)).cell? ⟨w.heap.size, 1, none⟩ = some (.slice A x.f1.length c) := (cell_blk HX.out 1).trans rfl
 have x2 : (k1.alloc (.cells #[.string (pc0 s1), .slice V1 m1 v1, .string (pc2 s1)] 75)).cell? ⟨w.heap.size, 2, none⟩ = some (.slice B x.f2.length c2) := (cell_blk HX.out 2).trans rfl
 have HF1 := hI (And.intro hf1 (And.intro hp1 (And.intro hn1 hs1)))
 clear hb hf1 hp1 hn1 hs1
 go_wp2_with fail
 refine (iof_ x A B c c2 nmDUR w0 _ HW.out hx hxo.1).mono ?_
 rintro _ k2 ⟨s2, n2, rfl, hb, hf2, hp2, hn2, hl2, hu2⟩
 obtain ⟨V2, m2, v2, hs2⟩ := pc1_slice s2
 rw [pc_eq s2, hs2]
 replace HX := hI (old_blk (below_blk hb HX.out) (.cells #[.string (pc0 s2), .slice V2 m2 v2, .string (pc2 s2)] 75))
 replace HD0 := hI (old_blk (below_blk hb HD0.out) (.cells #[.string (pc0 s2), .slice V2 m2 v2, .string (pc2 s2)] 75))
 replace HD1 := hI (old_blk (below_blk hb HD1.out) (.cells #[.string (pc0 s2), .slice V2 m2 v2, .string (pc2 s2)] 75))
 have HD2 := hI (new_blk k2 (.cells #[.string (pc0 s2), .slice V2 m2 v2, .string (pc2 s2)] 75))
 replace HW := hI ((HW.out.trans (hb.mono HW.out.size)).alloc (Nat.le_trans HW.out.size hb.size) (.cells #[.string (pc0 s2), .slice V2 m2 v2, .string (pc2 s2)] 75))
 replace HB := hI ((HB.out.trans (hb.mono HB.out.size)).alloc (Nat.le_trans HB.out.size hb.size) (.cells #[.string (pc0 s2), .slice V2 m2 v2, .string (pc2 s2)] 75))
 clear x0 x1 x2
 have x0 : (k2.alloc (.cells #[.string (pc0 s2), .slice V2 m2 v2, .string (pc2 s2)] 75)).cell? ⟨w.heap.size, 0, none⟩ = some (.string x.f0) := (cell_blk HX.out 0).trans rfl
 have x1 : (k2.alloc (.cells #[.string (pc0 s2), .slice V2 m2 v2, .string (pc2 s2)] 75)).cell? ⟨w.heap.size, 1, none⟩ = some (.slice A x.f1.length c) := (cell_blk HX.out 1).trans rfl
 have x2 : (k2.alloc (.cells #[.string (pc0 s2), .slice V2 m2 v2, .string (pc2 s2)] 75)).cell? ⟨w.heap.size, 2, none⟩ = some (.slice B x.f2.length c2) := (cell_blk HX.out 2).trans rfl
 have HF2 := hI (And.intro hf2 (And.intro hp2 (And.intro hn2 hs2)))
 clear hb hf2 hp2 hn2 hs2
 go_wp2_with fail
 refine (iof_ x A B c c2 nmRRULE w0 _ HW.out hx hxo.1).mono ?_
 rintro _ k3 ⟨s3, n3, rfl, hb, hf3, hp3, hn3, hl3, hu3⟩
 obtain ⟨V3, m3, v3, hs3⟩ := pc1_slice s3
 rw [pc_eq s3, hs3]
 replace HX := hI (old_blk (below_blk hb HX.out) (.cells #[.string (pc0 s3), .slice V3 m3 v3, .string (pc2 s3)] 75))
 replace HD0 := hI (old_blk (below_blk hb HD0.out) (.cells #[.string (pc0 s3), .slice V3 m3 v3, .string (pc2 s3)] 75))
 replace HD1 := hI (old_blk (below_blk hb HD1.out) (.cells #[.string (pc0 s3), .slice V3 m3 v3, .string (pc2 s3)] 75))
 replace HD2 := hI (old_blk (below_blk hb HD2.out) (.cells #[.string (pc0 s3), .slice V3 m3 v3, .string (pc2 s3)] 75))
 replace HW := hI ((HW.out.trans (hb.mono HW.out.size)).alloc (Nat.le_trans HW.out.size hb.size) (.cells #[.string (pc0 s3), .slice V3 m3 v3, .string (pc2 s3)] 75))
 replace HB := hI ((HB.out.trans (hb.mono HB.out.size)).alloc (Nat.le_trans HB.out.size hb.size) (.cells #[.string (pc0 s3), .slice V3 m3 v3, .string (pc2 s3)] 75))
 clear x0 x1 x2
 have x0 : (k3.alloc (.cells #[.string (pc0 s3), .slice V3 m3 v3, .string (pc2 s3)] 75)).cell? ⟨w.heap.size, 0, none⟩ = some (.string x.f0) := (cell_blk HX.out 0).trans rfl
 have x1 : (k3.alloc (.cells #[.string (pc0 s3), .slice V3 m3 v3, .string (pc2 s3)] 75)).cell? ⟨w.heap.size, 1, none⟩ = some (.slice A x.f1.length c) := (cell_blk HX.out 1).trans rfl
 have x2 : (k3.alloc (.cells #[.string (pc0 s3), .slice V3 m3 v3, .string (pc2 s3)] 75)).cell? ⟨w.heap.size, 2, none⟩ = some (.slice B x.f2.length c2) := (cell_blk HX.out 2).trans rfl
 have HF3 := hI (And.intro hf3 (And.intro hp3 (And.intro hn3 hs3)))
 clear hb hf3 hp3 hn3 hs3
 go_wp2_with fail
 refine (iof_ x A B c c2 ({ data := #[82, 68, 65, 84, 69] } : ByteArray) w0 _ HW.out hx hxo.1).mono ?_
 rintro _ k4 ⟨s4, n4, rfl, hb, hf4, hp4, hn4, hl4, hu4⟩
 obtain ⟨V4, m4, v4, hs4⟩ := pc1_slice s4
 rw [pc_eq s4, hs4]
 replace HX := hI (old_blk (below_blk hb HX.out) (.cells #[.string (pc0 s4), .slice V4 m4 v4, .string (pc2 s4)] 75))
 replace HD0 := hI (old_blk (below_blk hb HD0.out) (.cells #[.string (pc0 s4), .slice V4 m4 v4, .string (pc2 s4)] 75))
 replace HD1 := hI (old_blk (below_blk hb HD1.out) (.cells #[.string (pc0 s4), .slice V4 m4 v4, .string (pc2 s4)] 75))
 replace HD2 := hI (old_blk (below_blk hb HD2.out) (.cells #[.string (pc0 s4), .slice V4 m4 v4, .string (pc2 s4)] 75))
 replace HW := hI ((HW.out.trans (hb.mono HW.out.size)).alloc (Nat.le_trans HW.out.size hb.size) (.cells #[.string (pc0 s4), .slice V4 m4 v4, .string (pc2 s4)] 75))
 replace HB := hI ((HB.out.trans (hb.mono HB.out.size)).alloc (Nat.le_trans HB.out.size hb.size) (.cells #[.string (pc0 s4), .slice V4 m4 v4, .string (pc2 s4)] 75))
 clear x0 x1 x2
 have x0 : (k4.alloc (.cells #[.string (pc0 s4), .slice V4 m4 v4, .string (pc2 s4)] 75)).cell? ⟨w.heap.size, 0, none⟩ = some (.string x.f0) := (cell_blk HX.out 0).trans rfl
 have x1 : (k4.alloc (.cells #[.string (pc0 s4), .slice V4 m4 v4, .string (pc2 s4)] 75)).cell? ⟨w.heap.size, 1, none⟩ = some (.slice A x.f1.length c) := (cell_blk HX.out 1).trans rfl
 have x2 : (k4.alloc (.cells #[.string (pc0 s4), .slice V4 m4 v4, .string (pc2 s4)] 75)).cell? ⟨w.heap.size, 2, none⟩ = some (.slice B x.f2.length c2) := (cell_blk HX.out 2).trans rfl
 have HF4 := hI (And.intro hf4 (And.intro hp4 (And.intro hn4 hs4)))
 clear hb hf4 hp4 hn4 hs4
 go_upto_region 6 with (fail)
 clear x1 x2
 have hw34 : wrap64 (n3 + n4) = n3 + n4 := by unfold wrap64; omega
 by_cases hN : (x.f0.toList == ([86, 69, 86, 69, 78, 84] : List UInt8)) = true
 ·by_cases h0 : n0 = 1
  ·subst h0
   by_cases h1 : 1 < n1
   ·skip
    go_wp2
    exact bodyPost_ret (v := .tuple #[.int .i64 (0), .int .i64 (0), .bool false]) (by simp [results, Tryz.results68, go_sem]) rfl ⟨0, 0, false, rfl, HB.out, fun h => nomatch h⟩
   ·by_cases h2 : 1 < n2
    ·skip
     go_wp2
     exact bodyPost_ret (v := .tuple #[.int .i64 (0), .int .i64 (0), .bool false]) (by simp [results, Tryz.results68, go_sem]) rfl ⟨0, 0, false, rfl, HB.out, fun h => nomatch h⟩
    ·cases s1 with
     | none =>
      obtain rfl : n1 = 0 := HF1.out.2.2.1.2 rfl
      cases s2 with
      | none =>
       obtain rfl : n2 = 0 := HF2.out.2.2.1.2 rfl
       by_cases h34 : 0 < n3 + n4
       ·skip
        go_wp2
        exact bodyPost_ret (v := .tuple #[.int .i64 (0), .int .i64 (0), .bool false]) (by simp [results, Tryz.results68, go_sem]) rfl ⟨0, 0, false, rfl, HB.out, fun h => nomatch h⟩
       ·skip
        have HNM := hI (show x.f0.toList = ([86, 69, 86, 69, 78, 84] : List UInt8) from by simpa using hN)
        obtain ⟨⟨p0, V0', c0'⟩, hs0e⟩ : ∃ q, s0 = some q := by
         cases s0 with
         | none => have := HF0.out.2.2.1.2 rfl; omega
         | some q => exact ⟨q, rfl⟩
        subst hs0e
        obtain ⟨rfl, rfl, rfl⟩ := pc1_some HF0.out.2.2.2
        have HST := hI (show firstP x.f1 nmSTART = some p0 from HF0.out.1)
        have HP0 : Hid (PvOk w0 (some (p0, V0, v0))) := hI HF0.out.2.1
        have HN0 : Hid (p0.f0 = nmSTART) := hI (firstP_mem HST.out).2
        have hs3n : s3 = none := HF3.out.2.2.1.1 (by omega)
        have HRR := hI (show firstP x.f1 nmRRULE = none from by have := HF3.out.1; rw [hs3n] at this; exact this)
        clear hs3n
        have z0 : (k4.alloc (.cells #[.string (pc0 s4), .slice V4 m4 v4, .string (pc2 s4)] 75)).cell? ⟨k0.heap.size, 0, none⟩ = some (.string p0.f0) := (cell_blk HD0.out 0).trans rfl
        have z1 : (k4.alloc (.cells #[.string (pc0 s4), .slice V4 m4 v4, .string (pc2 s4)] 75)).cell? ⟨k0.heap.size, 1, none⟩ = some (.slice V0 p0.f1.length v0) := (cell_blk HD0.out 1).trans rfl
        have z2 : (k4.alloc (.cells #[.string (pc0 s4), .slice V4 m4 v4, .string (pc2 s4)] 75)).cell? ⟨k0.heap.size, 2, none⟩ = some (.string p0.f2) := (cell_blk HD0.out 2).trans rfl
        go_wp2_with fail
        refine (iMoment p0 V0 v0 w0 _ HW.out HP0.out).mono ?_
        rintro _ j0 ⟨rfl, hb⟩
        have HW := hI (HW.out.trans (hb.mono HW.out.size))
        have HB := hI (HB.out.trans (hb.mono HB.out.size))
        have HD1 := hI (below_blk hb HD1.out)
        have HD2 := hI (below_blk hb HD2.out)
        clear hb HD0 HX
        obtain ⟨a, ha⟩ : ∃ a, a = (imo p0).1 := ⟨_, rfl⟩
        obtain ⟨dt, hdt⟩ : ∃ a, a = (imo p0).2.1 := ⟨_, rfl⟩
        obtain ⟨ok, hok⟩ : ∃ a, a = (imo p0).2.2 := ⟨_, rfl⟩
        rw [← ha, ← hdt, ← hok]
        have HS := hI (And.intro ha (And.intro hdt hok))
        have hbd : ok = true → -100000000000 ≤ a ∧ a ≤ 400000000000 := fun h => by
         rw [ha]
         exact ((momP_of (f := f) (hTab.1 p0.f0 (by rw [HN0.out]; exact List.mem_cons_self)) (by rw [← hok]; exact h)).1).bd
        have HBD := hI hbd
        clear ha hdt hok hbd
        clear z0 z1 z2 x0
        have HEN := hI (show firstP x.f1 nmEND = none from HF1.out.1)
        have HDU := hI (show firstP x.f1 nmDUR = none from HF2.out.1)
        cases ok with
        | false =>
         cases dt with
         | true =>
          go_wp2
          exact bodyPost_ret (v := .tuple #[.int .i64 (a), .int .i64 (wrap64 (a + 86400)), .bool false]) (by simp [results, Tryz.results68, go_sem]) rfl ⟨a, wrap64 (a + 86400), false, rfl, HB.out, fun h => nomatch h⟩
         | false =>
          go_wp2
          exact bodyPost_ret (v := .tuple #[.int .i64 (a), .int .i64 (a), .bool false]) (by simp [results, Tryz.results68, go_sem]) rfl ⟨a, a, false, rfl, HB.out, fun h => nomatch h⟩
        | true =>
         have hab := HBD.out rfl
         have hw : wrap64 (a + 86400) = a + 86400 := by unfold wrap64; omega
         have hmo := (momP_of (f := f) (hTab.1 p0.f0 (by rw [HN0.out]; exact List.mem_cons_self)) (by rw [← HS.out.2.2]))
         have HK := hI (imo_ok p0 (by rw [← HS.out.2.2]))
         have HMO := hI hmo
         clear hmo
         cases dt with
         | true =>
          have HE : Hid (EndO f x.f1 (some (a + 86400))) := hI (EndO.plain p0 a 86400 HEN.out HST.out HDU.out (Or.inr ⟨HMO.out.2.1 HS.out.2.1.symm, (by
           rcases HK.out with ⟨_, _, h⟩ | ⟨h, _⟩
           ·rw [HS.out.1]; exact h
           ·rw [← HS.out.2.1] at h; cases h), rfl⟩))
          have HSP : Hid (spanV x = (a, a + 86400)) := hI (by unfold spanV; rw [HST.out, HEN.out, HDU.out]; simp only; rw [← HS.out.1, ← HS.out.2.1]; rfl)
          go_wp2
          exact bodyPost_ret (v := .tuple #[.int .i64 (a), .int .i64 (a + 86400), .bool true]) (by simp [results, Tryz.results68, go_sem]) rfl ⟨a, a + 86400, true, rfl, HB.out, fun _ => ⟨HNM.out, HRR.out, (by rw [HST.out]; exact (show MomP f p0 a from by rw [HS.out.1]; exact HMO.out.1)), HE.out, HSP.out, by omega⟩⟩
         | false =>
          have HE : Hid (EndO f x.f1 (some a)) := hI (by
           have := EndO.plain (f := f) p0 a 0 HEN.out HST.out HDU.out (Or.inl ⟨HMO.out.2.2 HS.out.2.1.symm, (by
            rcases HK.out with ⟨h, _⟩ | ⟨_, _, h⟩
            ·rw [← HS.out.2.1] at h; cases h
            ·rw [HS.out.1]; exact h), rfl⟩)
           rwa [Int.add_zero] at this)
          have HSP : Hid (spanV x = (a, a)) := hI (by unfold spanV; rw [HST.out, HEN.out, HDU.out]; simp only; rw [← HS.out.1, ← HS.out.2.1]; rfl)
          go_wp2
          exact bodyPost_ret (v := .tuple #[.int .i64 (a), .int .i64 (a), .bool true]) (by simp [results, Tryz.results68, go_sem]) rfl ⟨a, a, true, rfl, HB.out, fun _ => ⟨HNM.out, HRR.out, (by rw [HST.out]; exact (show MomP f p0 a from by rw [HS.out.1]; exact HMO.out.1)), HE.out, HSP.out, Int.le_refl _⟩⟩
      | some q2 =>
       obtain ⟨p2, V2', c2'⟩ := q2
       obtain rfl : n2 = 1 := by
        have : ¬ n2 = 0 := fun h => by have := HF2.out.2.2.1.1 h; cases this
        omega
       by_cases h34 : 0 < n3 + n4
       ·skip
        go_wp2
        exact bodyPost_ret (v := .tuple #[.int .i64 (0), .int .i64 (0), .bool false]) (by simp [results, Tryz.results68, go_sem]) rfl ⟨0, 0, false, rfl, HB.out, fun h => nomatch h⟩
       ·skip
        have HNM := hI (show x.f0.toList = ([86, 69, 86, 69, 78, 84] : List UInt8) from by simpa using hN)
        obtain ⟨⟨p0, V0', c0'⟩, hs0e⟩ : ∃ q, s0 = some q := by
         cases s0 with
         | none => have := HF0.out.2.2.1.2 rfl; omega
         | some q => exact ⟨q, rfl⟩
        subst hs0e
        obtain ⟨rfl, rfl, rfl⟩ := pc1_some HF0.out.2.2.2
        have HST := hI (show firstP x.f1 nmSTART = some p0 from HF0.out.1)
        have HP0 : Hid (PvOk w0 (some (p0, V0, v0))) := hI HF0.out.2.1
        have HN0 : Hid (p0.f0 = nmSTART) := hI (firstP_mem HST.out).2
        have hs3n : s3 = none := HF3.out.2.2.1.1 (by omega)
        have HRR := hI (show firstP x.f1 nmRRULE = none from by have := HF3.out.1; rw [hs3n] at this; exact this)
        clear hs3n
        have z0 : (k4.alloc (.cells #[.string (pc0 s4), .slice V4 m4 v4, .string (pc2 s4)] 75)).cell? ⟨k0.heap.size, 0, none⟩ = some (.string p0.f0) := (cell_blk HD0.out 0).trans rfl
        have z1 : (k4.alloc (.cells #[.string (pc0 s4), .slice V4 m4 v4, .string (pc2 s4)] 75)).cell? ⟨k0.heap.size, 1, none⟩ = some (.slice V0 p0.f1.length v0) := (cell_blk HD0.out 1).trans rfl
        have z2 : (k4.alloc (.cells #[.string (pc0 s4), .slice V4 m4 v4, .string (pc2 s4)] 75)).cell? ⟨k0.heap.size, 2, none⟩ = some (.string p0.f2) := (cell_blk HD0.out 2).trans rfl
        go_wp2_with fail
        refine (iMoment p0 V0 v0 w0 _ HW.out HP0.out).mono ?_
        rintro _ j0 ⟨rfl, hb⟩
        have HW := hI (HW.out.trans (hb.mono HW.out.size))
        have HB := hI (HB.out.trans (hb.mono HB.out.size))
        have HD1 := hI (below_blk hb HD1.out)
        have HD2 := hI (below_blk hb HD2.out)
        clear hb HD0 HX
        obtain ⟨a, ha⟩ : ∃ a, a = (imo p0).1 := ⟨_, rfl⟩
        obtain ⟨dt, hdt⟩ : ∃ a, a = (imo p0).2.1 := ⟨_, rfl⟩
        obtain ⟨ok, hok⟩ : ∃ a, a = (imo p0).2.2 := ⟨_, rfl⟩
        rw [← ha, ← hdt, ← hok]
        have HS := hI (And.intro ha (And.intro hdt hok))
        have hbd : ok = true → -100000000000 ≤ a ∧ a ≤ 400000000000 := fun h => by
         rw [ha]
         exact ((momP_of (f := f) (hTab.1 p0.f0 (by rw [HN0.out]; exact List.mem_cons_self)) (by rw [← hok]; exact h)).1).bd
        have HBD := hI hbd
        clear ha hdt hok hbd
        clear z0 z1 z2 x0
        obtain ⟨rfl, rfl, rfl⟩ := pc1_some HF2.out.2.2.2
        have HEN := hI (show firstP x.f1 nmEND = none from HF1.out.1)
        have HDU := hI (show firstP x.f1 nmDUR = some p2 from HF2.out.1)
        have HN2 : Hid (p2.f0 = nmDUR) := hI (firstP_mem HDU.out).2
        have z1 : ∀ jw, Below j0.heap.size j0 jw → jw.cell? ⟨k2.heap.size, 1, none⟩ = some (.slice V2 p2.f1.length v2) := fun jw h => pw_cell_below h ((cell_blk HD2.out 1).trans rfl)
        have z2 : j0.cell? ⟨k2.heap.size, 2, none⟩ = some (.string p2.f2) := (cell_blk HD2.out 2).trans rfl
        have hp2s : p2.f2.size ≤ 1000 := (hxo.2.2 p2 (firstP_mem HDU.out).1).2.1
        go_wp2_with fail
        refine (iLasting p2.f2 _ hp2s).mono ?_
        rintro _ j1 ⟨l, is, rfl, hlp, hb⟩
        have z1 := z1 j1 hb
        have HB := hI (HB.out.trans (hb.mono HB.out.size))
        have HLP := hI hlp
        clear hb HD1 HD2 z2 hlp
        cases ok with
        | false =>
         go_wp2
         exact bodyPost_ret (v := .tuple #[.int .i64 (a), .int .i64 (wrap64 (a + l)), .bool false]) (by simp [results, Tryz.results68, go_sem]) rfl ⟨a, wrap64 (a + l), false, rfl, HB.out, fun h => nomatch h⟩
        | true =>
         cases is with
         | false =>
          go_wp2
          exact bodyPost_ret (v := .tuple #[.int .i64 (a), .int .i64 (wrap64 (a + l)), .bool false]) (by simp [results, Tryz.results68, go_sem]) rfl ⟨a, wrap64 (a + l), false, rfl, HB.out, fun h => nomatch h⟩
         | true =>
          have hab := HBD.out rfl
          have hlp := HLP.out rfl
          have hll := hlp.nonneg
          have hw : wrap64 (a + l) = a + l := by unfold wrap64; omega
          have HL2 := hI hlp
          clear hlp
          by_cases hpl : p2.f1.length = 0
          ·have hplb : ((p2.f1.length : Int) == 0) = true := by rw [beq_iff_eq]; omega
           have hpl2 : p2.f1 = [] := List.eq_nil_of_length_eq_zero hpl
           have HPL := hI hpl2
           clear hpl hpl2
           by_cases hl0 : 0 < l
           ·have hv : valT f p2 = nmDUR := by
             unfold valT
             rw [HPL.out, HN2.out, hTab.2]
             rfl
            have HMO := hI (momP_of (f := f) (hTab.1 p0.f0 (by rw [HN0.out]; exact List.mem_cons_self)) (by rw [← HS.out.2.2]))
            have HE : Hid (EndO f x.f1 (some (a + l))) := hI (EndO.dur p0 p2 a l HEN.out HST.out (by rw [HS.out.1]; exact HMO.out.1) HDU.out hv HL2.out)
            have HSP : Hid (spanV x = (a, a + l)) := hI (by unfold spanV; rw [HST.out, HEN.out, HDU.out]; simp only; rw [← HS.out.1, lastV_eq HL2.out])
            clear hv
            go_wp2
            exact bodyPost_ret (v := .tuple #[.int .i64 (a), .int .i64 (a + l), .bool true]) (by simp [results, Tryz.results68, go_sem]) rfl ⟨a, a + l, true, rfl, HB.out, fun _ => ⟨HNM.out, HRR.out, (by rw [HST.out]; exact (show MomP f p0 a from by rw [HS.out.1]; exact HMO.out.1)), HE.out, HSP.out, by omega⟩⟩
           ·have hle : l ≤ 0 := by omega
            go_wp2
            exact bodyPost_ret (v := .tuple #[.int .i64 (a), .int .i64 (a + l), .bool false]) (by simp [results, Tryz.results68, go_sem, hle]) rfl ⟨a, a + l, false, rfl, HB.out, fun h => nomatch h⟩
          ·have hplb : ((p2.f1.length : Int) == 0) = false := by rw [beq_eq_false_iff_ne]; omega
           clear hpl
           go_wp2
           exact bodyPost_ret (v := .tuple #[.int .i64 (a), .int .i64 (a + l), .bool false]) (by simp [results, Tryz.results68, go_sem]) rfl ⟨a, a + l, false, rfl, HB.out, fun h => nomatch h⟩
     | some q1 =>
      obtain ⟨p1, V1', c1'⟩ := q1
      obtain rfl : n1 = 1 := by
       have : ¬ n1 = 0 := fun h => by have := HF1.out.2.2.1.1 h; cases this
       omega
      cases s2 with
      | none =>
       obtain rfl : n2 = 0 := HF2.out.2.2.1.2 rfl
       by_cases h34 : 0 < n3 + n4
       ·skip
        go_wp2
        exact bodyPost_ret (v := .tuple #[.int .i64 (0), .int .i64 (0), .bool false]) (by simp [results, Tryz.results68, go_sem]) rfl ⟨0, 0, false, rfl, HB.out, fun h => nomatch h⟩
       ·skip
        have HNM := hI (show x.f0.toList = ([86, 69, 86, 69, 78, 84] : List UInt8) from by simpa using hN)
        obtain ⟨⟨p0, V0', c0'⟩, hs0e⟩ : ∃ q, s0 = some q := by
         cases s0 with
         | none => have := HF0.out.2.2.1.2 rfl; omega
         | some q => exact ⟨q, rfl⟩
        subst hs0e
        obtain ⟨rfl, rfl, rfl⟩ := pc1_some HF0.out.2.2.2
        have HST := hI (show firstP x.f1 nmSTART = some p0 from HF0.out.1)
        have HP0 : Hid (PvOk w0 (some (p0, V0, v0))) := hI HF0.out.2.1
        have HN0 : Hid (p0.f0 = nmSTART) := hI (firstP_mem HST.out).2
        have hs3n : s3 = none := HF3.out.2.2.1.1 (by omega)
        have HRR := hI (show firstP x.f1 nmRRULE = none from by have := HF3.out.1; rw [hs3n] at this; exact this)
        clear hs3n
        have z0 : (k4.alloc (.cells #[.string (pc0 s4), .slice V4 m4 v4, .string (pc2 s4)] 75)).cell? ⟨k0.heap.size, 0, none⟩ = some (.string p0.f0) := (cell_blk HD0.out 0).trans rfl
        have z1 : (k4.alloc (.cells #[.string (pc0 s4), .slice V4 m4 v4, .string (pc2 s4)] 75)).cell? ⟨k0.heap.size, 1, none⟩ = some (.slice V0 p0.f1.length v0) := (cell_blk HD0.out 1).trans rfl
        have z2 : (k4.alloc (.cells #[.string (pc0 s4), .slice V4 m4 v4, .string (pc2 s4)] 75)).cell? ⟨k0.heap.size, 2, none⟩ = some (.string p0.f2) := (cell_blk HD0.out 2).trans rfl
        go_wp2_with fail
        refine (iMoment p0 V0 v0 w0 _ HW.out HP0.out).mono ?_
        rintro _ j0 ⟨rfl, hb⟩
        have HW := hI (HW.out.trans (hb.mono HW.out.size))
        have HB := hI (HB.out.trans (hb.mono HB.out.size))
        have HD1 := hI (below_blk hb HD1.out)
        have HD2 := hI (below_blk hb HD2.out)
        clear hb HD0 HX
        obtain ⟨a, ha⟩ : ∃ a, a = (imo p0).1 := ⟨_, rfl⟩
        obtain ⟨dt, hdt⟩ : ∃ a, a = (imo p0).2.1 := ⟨_, rfl⟩
        obtain ⟨ok, hok⟩ : ∃ a, a = (imo p0).2.2 := ⟨_, rfl⟩
        rw [← ha, ← hdt, ← hok]
        have HS := hI (And.intro ha (And.intro hdt hok))
        have hbd : ok = true → -100000000000 ≤ a ∧ a ≤ 400000000000 := fun h => by
         rw [ha]
         exact ((momP_of (f := f) (hTab.1 p0.f0 (by rw [HN0.out]; exact List.mem_cons_self)) (by rw [← hok]; exact h)).1).bd
        have HBD := hI hbd
        clear ha hdt hok hbd
        clear z0 z1 z2 x0
        obtain ⟨rfl, rfl, rfl⟩ := pc1_some HF1.out.2.2.2
        have HEN := hI (show firstP x.f1 nmEND = some p1 from HF1.out.1)
        have HP1 : Hid (PvOk w0 (some (p1, V1, v1))) := hI HF1.out.2.1
        have HN1 : Hid (p1.f0 = nmEND) := hI (firstP_mem HEN.out).2
        have z0 : j0.cell? ⟨k1.heap.size, 0, none⟩ = some (.string p1.f0) := (cell_blk HD1.out 0).trans rfl
        have z1 : j0.cell? ⟨k1.heap.size, 1, none⟩ = some (.slice V1 p1.f1.length v1) := (cell_blk HD1.out 1).trans rfl
        have z2 : j0.cell? ⟨k1.heap.size, 2, none⟩ = some (.string p1.f2) := (cell_blk HD1.out 2).trans rfl
        go_wp2_with fail
        refine (iMoment p1 V1 v1 w0 _ HW.out HP1.out).mono ?_
        rintro _ j1 ⟨rfl, hb⟩
        have HB := hI (HB.out.trans (hb.mono HB.out.size))
        clear hb HD1 HD2 z0 z1 z2
        obtain ⟨e, he⟩ : ∃ a, a = (imo p1).1 := ⟨_, rfl⟩
        obtain ⟨al, hal⟩ : ∃ a, a = (imo p1).2.1 := ⟨_, rfl⟩
        obtain ⟨is, his⟩ : ∃ a, a = (imo p1).2.2 := ⟨_, rfl⟩
        rw [← he, ← hal, ← his]
        have HS1 := hI (And.intro he his)
        clear he hal his
        cases ok with
        | false =>
         go_wp2
         exact bodyPost_ret (v := .tuple #[.int .i64 (a), .int .i64 (e), .bool false]) (by simp [results, Tryz.results68, go_sem]) rfl ⟨a, e, false, rfl, HB.out, fun h => nomatch h⟩
        | true =>
         cases is with
         | false =>
          go_wp2
          exact bodyPost_ret (v := .tuple #[.int .i64 (a), .int .i64 (e), .bool false]) (by simp [results, Tryz.results68, go_sem]) rfl ⟨a, e, false, rfl, HB.out, fun h => nomatch h⟩
         | true =>
          cases dt <;> cases al
          ·skip
           by_cases hae : a < e
           ·have HE : Hid (EndO f x.f1 (some e)) := hI (EndO.fin p1 e HEN.out (by rw [HS1.out.1]; exact (momP_of (f := f) (hTab.1 p1.f0 (by rw [HN1.out]; exact List.mem_cons_of_mem _ List.mem_cons_self)) (by rw [← HS1.out.2])).1))
            have HSP : Hid (spanV x = (a, e)) := hI (by unfold spanV; rw [HST.out, HEN.out]; simp only; rw [← HS.out.1, ← HS1.out.1])
            have HMO := hI (momP_of (f := f) (hTab.1 p0.f0 (by rw [HN0.out]; exact List.mem_cons_self)) (by rw [← HS.out.2.2]))
            go_wp2
            exact bodyPost_ret (v := .tuple #[.int .i64 (a), .int .i64 (e), .bool true]) (by simp [results, Tryz.results68, go_sem]) rfl ⟨a, e, true, rfl, HB.out, fun _ => ⟨HNM.out, HRR.out, (by rw [HST.out]; exact (show MomP f p0 a from by rw [HS.out.1]; exact HMO.out.1)), HE.out, HSP.out, by omega⟩⟩
           ·have hle : e ≤ a := by omega
            go_wp2
            exact bodyPost_ret (v := .tuple #[.int .i64 (a), .int .i64 (e), .bool false]) (by simp [results, Tryz.results68, go_sem, hle]) rfl ⟨a, e, false, rfl, HB.out, fun h => nomatch h⟩
          ·skip
           go_wp2
           exact bodyPost_ret (v := .tuple #[.int .i64 (a), .int .i64 (e), .bool false]) (by simp [results, Tryz.results68, go_sem]) rfl ⟨a, e, false, rfl, HB.out, fun h => nomatch h⟩
          ·skip
           go_wp2
           exact bodyPost_ret (v := .tuple #[.int .i64 (a), .int .i64 (e), .bool false]) (by simp [results, Tryz.results68, go_sem]) rfl ⟨a, e, false, rfl, HB.out, fun h => nomatch h⟩
          ·skip
           by_cases hae : a < e
           ·have HE : Hid (EndO f x.f1 (some e)) := hI (EndO.fin p1 e HEN.out (by rw [HS1.out.1]; exact (momP_of (f := f) (hTab.1 p1.f0 (by rw [HN1.out]; exact List.mem_cons_of_mem _ List.mem_cons_self)) (by rw [← HS1.out.2])).1))
            have HSP : Hid (spanV x = (a, e)) := hI (by unfold spanV; rw [HST.out, HEN.out]; simp only; rw [← HS.out.1, ← HS1.out.1])
            have HMO := hI (momP_of (f := f) (hTab.1 p0.f0 (by rw [HN0.out]; exact List.mem_cons_self)) (by rw [← HS.out.2.2]))
            go_wp2
            exact bodyPost_ret (v := .tuple #[.int .i64 (a), .int .i64 (e), .bool true]) (by simp [results, Tryz.results68, go_sem]) rfl ⟨a, e, true, rfl, HB.out, fun _ => ⟨HNM.out, HRR.out, (by rw [HST.out]; exact (show MomP f p0 a from by rw [HS.out.1]; exact HMO.out.1)), HE.out, HSP.out, by omega⟩⟩
           ·have hle : e ≤ a := by omega
            go_wp2
            exact bodyPost_ret (v := .tuple #[.int .i64 (a), .int .i64 (e), .bool false]) (by simp [results, Tryz.results68, go_sem, hle]) rfl ⟨a, e, false, rfl, HB.out, fun h => nomatch h⟩
      | some q2 =>
       obtain rfl : n2 = 1 := by
        have : ¬ n2 = 0 := fun h => by have := HF2.out.2.2.1.1 h; cases this
        omega
       go_wp2
       exact bodyPost_ret (v := .tuple #[.int .i64 (0), .int .i64 (0), .bool false]) (by simp [results, Tryz.results68, go_sem]) rfl ⟨0, 0, false, rfl, HB.out, fun h => nomatch h⟩
  ·have h0b : (n0 == 1) = false := by rw [beq_eq_false_iff_ne]; exact h0
   go_wp2
   exact bodyPost_ret (v := .tuple #[.int .i64 (0), .int .i64 (0), .bool false]) (by simp [results, Tryz.results68, go_sem]) rfl ⟨0, 0, false, rfl, HB.out, fun h => nomatch h⟩
 ·have hNf : (x.f0.toList == ([86, 69, 86, 69, 78, 84] : List UInt8)) = false := by simpa using hN
  clear hN
  go_wp2
  exact bodyPost_ret (v := .tuple #[.int .i64 (0), .int .i64 (0), .bool false]) (by simp [results, Tryz.results68, go_sem]) rfl ⟨0, 0, false, rfl, HB.out, fun h => nomatch h⟩
end Go.Proofs.YtcllaplddebilaaGreatDoor

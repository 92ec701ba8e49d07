/- laws.FnKMatch: a part of the proof: Lasting. -/
import Derived.Test.YtcllaplddebilaaGreatDoorK23
set_option maxRecDepth 1000000
set_option maxHeartbeats 64000000
set_option linter.unusedVariables false
set_option linter.unusedSimpArgs false
namespace Go.Proofs.YtcllaplddebilaaGreatDoor
open Go.RowKit Go.Sort
attribute [local go_sem] cell?_grow frozen?_grow cell?_redrawn frozen?_redrawn size_redrawn size_grow ba_get ba_extract
attribute [local simp] size_redrawn
open Go.Lib Go.Proofs.YtcllaplddebilaaGreatDoorW.PrintWords Go.Proofs.YtcllaplddebilaaGreatDoorW.PrintLast Go.Proofs.YtcllaplddebilaaGreatDoorW.PrintMore PFnKMatch
def LastPost (w : World) (s : ByteArray) (e : Ending) (w' : World) : Prop := ∃ (n : Int) (b : Bool), e = .returned (.tuple #[.int .i64 n, .bool b]) ∧ (b = true → LastP s n) ∧ Below w.heap.size w w'
theorem iLasting (s : ByteArray) (w : World) (hs : s.size ≤ 1000) : Calls Tryz.prog 105 #[.string s] w (LastPost w s) := by
 have HB := Lib.hid (Below.refl w.heap.size w)
 go_enter Tryz.func105, Tryz.ntmps105
 by_cases h3 : s.size < 3
 ·have h3' : (s.size : Int) < 3 := by omega
  go_wp2
  exact bodyPost_ret (v := .tuple #[.int .i64 0, .bool false]) (by simp [results, Tryz.results105, go_sem]) rfl ⟨0, false, rfl, (fun h => nomatch h), HB.out⟩
 ·have h3' : ¬ (s.size : Int) < 3 := by omega
  have h0 : 0 < s.size := by omega
  by_cases hP : (s[0]'h0).toNat = 80
  ·have hPi : ((s[0]'h0).toNat : Int) = 80 := by omega
   have hfin : ∀ n, DurT false (s.extract 1 s.size) n ∧ n ≤ 9000000000 → LastP s n := fun n h => lastP_of h0 hP hs h.1 h.2
   obtain ⟨t1, ht1⟩ : ∃ x, x = s.extract 1 s.size := ⟨_, rfl⟩
   have hs1 : t1.size ≤ 1000 := by rw [ht1, ex_size]; omega
   rw [← ht1] at hfin
   have HF := Lib.hid hfin
   clear hfin
   have h1le : (1 : Int) ≤ (s.size : Int) := by omega
   go_wp2_with fail
   have ht1' : s.extract 1 s.size = t1 := ht1.symm
   rw [ht1']
   clear ht1 ht1'
   go_loopg [0, 5, 6, 7, 8] t1.size (fun g s0 s5 s6 s7 s8 wr => ∃ (u : ByteArray) (at_ sum : Int) (tm sm : Bool), g = u.size ∧ u.size ≤ 1000 ∧ s0 = .string u ∧ s5 = .int .i64 at_ ∧ s6 = .int .i64 sum ∧ s7 = .bool tm ∧ s8 = .bool sm ∧ Hid (LInv t1 u at_ sum tm) ∧ Hid (Below w.heap.size w wr))
   case atStart => exact ⟨t1, -1, 0, false, false, rfl, hs1, rfl, rfl, rfl, rfl, rfl, Lib.hid (LInv.start t1), HB⟩
   case round =>
    clear HB hs1
    obtain ⟨u, at_, sum, tm, sm, rfl, hs1, rfl, rfl, rfl, rfl, rfl, HI, HB⟩ := hrel
    by_cases he : u = { data := #[] }
    ·subst he
     have hfin := HF.out _ (HI.out.fin rfl)
     have HFin := Lib.hid hfin
     clear hfin HI HF
     go_wp2
     exact bodyPost_ret (v := .tuple #[.int .i64 sum, .bool sm]) (by simp [results, Tryz.results105, go_sem]) rfl ⟨sum, sm, rfl, (fun _ => HFin.out), HB.out⟩
    ·have hne := notEmpty he
     have hu0 : 0 < u.size := by
      rcases Nat.eq_zero_or_pos u.size with h | h
      ·exact absurd (ByteArray.size_eq_zero_iff.1 h) he
      ·exact h
     clear he
     have hup : (0 : Int) < (u.size : Int) := by omega
     by_cases hT : (u[0]'hu0).toNat = 84
     ·have hTi : ((u[0]'hu0).toNat : Int) = 84 := by omega
      cases tm with
      | true =>
       go_wp2
       exact bodyPost_ret (v := .tuple #[.int .i64 0, .bool false]) (by simp [results, Tryz.results105, go_sem]) rfl ⟨0, false, rfl, (fun h => nomatch h), HB.out⟩
      | false =>
       by_cases h1 : u.size = 1
       ·have h1i : (u.size : Int) = 1 := by omega
        go_wp2
        exact bodyPost_ret (v := .tuple #[.int .i64 0, .bool false]) (by simp [results, Tryz.results105, go_sem]) rfl ⟨0, false, rfl, (fun h => nomatch h), HB.out⟩
       ·have h1i : ¬ (u.size : Int) = 1 := by omega
        have h1le : (1 : Int) ≤ (u.size : Int) := by omega
        have HI2 := Lib.hid (HI.out.isT hu0 hT h1)
        have hsz : (u.extract 1 u.size).size = u.size - 1 := ex_size u 1
        clear HI
        go_wp2_with fail
        go_quiet (fail)
        generalize hwd : World.drewN wr nq = wd
        have hbk : Below wr.heap.size wr wd := (by rw [← hwd]; exact below_drewN (Below.refl _ _) _)
        clear hwd
        have HB := Lib.hid (HB.out.trans (hbk.mono HB.out.size))
        clear hbk
        go_wp2
        go_roundg (u.extract 1 u.size).size
        case measure => omega
        case rel => exact ⟨u.extract 1 u.size, 2, sum, true, sm, rfl, by omega, rfl, rfl, rfl, rfl, rfl, HI2, HB⟩
     ·have hTi : ¬ ((u[0]'hu0).toNat : Int) = 84 := by omega
      go_wp2_with fail
      go_loopw [9] (fun s9 wq => ∃ j : Nat, j ≤ u.size ∧ s9 = .int .i64 j ∧ Hid (Below w.heap.size w wq) ∧ Hid (∀ i (h : i < u.size), i < j → dgt (u[i]'h))) (fun s9 _ => u.size - (RowKit.intOf s9).toNat)
      case atStart => exact ⟨0, Nat.zero_le _, rfl, HB, Lib.hid (fun i _ h => absurd h (Nat.not_lt_zero i))⟩
      case round =>
       clear HB
       obtain ⟨j, hj, rfl, HB, HE⟩ := hrel
       by_cases hjl : j < u.size
       ·by_cases hdg : (48 : Int) ≤ ((u[j]'hjl).toNat : Int) ∧ ((u[j]'hjl).toNat : Int) ≤ 57
        ·obtain ⟨a1, a2⟩ := hdg
         have HE2 : Hid (∀ i (h : i < u.size), i < j + 1 → dgt (u[i]'h)) := Lib.hid (fun i h hi => by
          by_cases hij : i = j
          ·subst hij; exact ⟨a1, a2⟩
          ·exact HE.out i h (by omega))
         go_wp2
         exact ⟨⟨j + 1, by omega, by go_num, HB, HE2⟩, by simp [RowKit.intOf]; omega⟩
        ·have hor : ((u[j]'hjl).toNat : Int) < 48 ∨ ((48 : Int) ≤ ((u[j]'hjl).toNat : Int) ∧ ¬ ((u[j]'hjl).toNat : Int) ≤ 57) := by omega
         have hnl : ¬ (u.size : Int) ≤ (j : Int) := by omega
         clear hdg
         rcases hor with a1 | ⟨a1, a2⟩
         ·skip
          by_cases hj0 : j = 0
          ·have hj0i : ((j : Int) == 0) = true := by rw [beq_iff_eq]; omega
           clear hj0
           go_wp2
           exact bodyPost_ret (v := .tuple #[.int .i64 0, .bool false]) (by simp [results, Tryz.results105, go_sem]) rfl ⟨0, false, rfl, (fun h => nomatch h), HB.out⟩
          ·have hj0i : ((j : Int) == 0) = false := by rw [beq_eq_false_iff_ne]; omega
           by_cases hj4 : 4 < j
           ·have hj4i : (4 : Int) < (j : Int) := by omega
            go_wp2
            exact bodyPost_ret (v := .tuple #[.int .i64 0, .bool false]) (by simp [results, Tryz.results105, go_sem]) rfl ⟨0, false, rfl, (fun h => nomatch h), HB.out⟩
           ·have hj4i : ¬ (4 : Int) < (j : Int) := by omega
            have hds := digs_of u j (by omega) HE.out
            have hxs : (u.extract 0 j).size = j := by rw [ByteArray.size_extract]; omega
            have hin := inum_digs (u.extract 0 j) (by omega) hds (by omega)
            go_wp2_with fail
            refine (spec_inumber.calls 20 (u.extract 0 j) _ true _ hin).mono ?_
            rintro _ w2 ⟨rfl, hb⟩
            have hb := hb.below
            have HB := Lib.hid (HB.out.trans (hb.mono HB.out.size))
            obtain ⟨n, hn⟩ : ∃ n, n = dec (u.extract 0 j).toList 0 := ⟨_, rfl⟩
            rw [← hn]
            have HD := Lib.hid (And.intro hds hn)
            clear hb hds hin hn hxs
            go_wp2_with fail
            go_loopw [12] (fun s12 wq => ∃ k : Nat, k ≤ ordI (u[j]'hjl).toNat ∧ s12 = .int .i64 k ∧ Hid (Below w.heap.size w wq)) (fun s12 _ => 6 - (RowKit.intOf s12).toNat)
            case atStart => exact ⟨0, Nat.zero_le _, rfl, HB⟩
            case round =>
             clear HB
             obtain ⟨k, hk, rfl, HB⟩ := hrel
             obtain ⟨w3, rfl⟩ : ∃ w3 : World, w3 = wr := ⟨_, rfl⟩
             have h6 : ordI (u[j]'hjl).toNat ≤ 6 := by unfold ordI; (repeat' split) <;> omega
             have HO := Lib.hid hk
             have hk7 : k = 0 ∨ k = 1 ∨ k = 2 ∨ k = 3 ∨ k = 4 ∨ k = 5 ∨ k = 6 := by omega
             clear hk h6
             rcases hk7 with rfl | rfl | rfl | rfl | rfl | rfl | rfl
             ·have hkb : ((87 : Int) == ((u[j]'hjl).toNat : Int)) = false := by rw [beq_eq_false_iff_ne]; omega
              have hko : 0 + 1 ≤ ordI (u[j]'hjl).toNat := by have h9 := HO.out; unfold ordI at h9 ⊢; (repeat' split at h9) <;> (repeat' split) <;> omega
              clear HO
              go_wp2_with fail
              go_quiet (fail)
              generalize hwd : World.drewN w3 nq = wd
              have hbk : Below w3.heap.size w3 wd := (by rw [← hwd]; exact below_drewN (Below.refl _ _) _)
              clear hwd
              have HB := Lib.hid (HB.out.trans (hbk.mono HB.out.size))
              clear hbk
              go_wp2
              exact ⟨⟨0 + 1, hko, by go_num, HB⟩, by simp [RowKit.intOf]⟩
             ·have hkb : ((68 : Int) == ((u[j]'hjl).toNat : Int)) = false := by rw [beq_eq_false_iff_ne]; omega
              have hko : 1 + 1 ≤ ordI (u[j]'hjl).toNat := by have h9 := HO.out; unfold ordI at h9 ⊢; (repeat' split at h9) <;> (repeat' split) <;> omega
              clear HO
              go_wp2_with fail
              go_quiet (fail)
              generalize hwd : World.drewN w3 nq = wd
              have hbk : Below w3.heap.size w3 wd := (by rw [← hwd]; exact below_drewN (Below.refl _ _) _)
              clear hwd
              have HB := Lib.hid (HB.out.trans (hbk.mono HB.out.size))
              clear hbk
              go_wp2
              exact ⟨⟨1 + 1, hko, by go_num, HB⟩, by simp [RowKit.intOf]⟩
             ·have hkb : ((84 : Int) == ((u[j]'hjl).toNat : Int)) = false := by rw [beq_eq_false_iff_ne]; omega
              have hko : 2 + 1 ≤ ordI (u[j]'hjl).toNat := by have h9 := HO.out; unfold ordI at h9 ⊢; (repeat' split at h9) <;> (repeat' split) <;> omega
              clear HO
              go_wp2_with fail
              go_quiet (fail)
              generalize hwd : World.drewN w3 nq = wd
              have hbk : Below w3.heap.size w3 wd := (by rw [← hwd]; exact below_drewN (Below.refl _ _) _)
              clear hwd
              have HB := Lib.hid (HB.out.trans (hbk.mono HB.out.size))
              clear hbk
              go_wp2
              exact ⟨⟨2 + 1, hko, by go_num, HB⟩, by simp [RowKit.intOf]⟩
             ·have hkb : ((72 : Int) == ((u[j]'hjl).toNat : Int)) = false := by rw [beq_eq_false_iff_ne]; omega
              have hko : 3 + 1 ≤ ordI (u[j]'hjl).toNat := by have h9 := HO.out; unfold ordI at h9 ⊢; (repeat' split at h9) <;> (repeat' split) <;> omega
              clear HO
              go_wp2_with fail
              go_quiet (fail)
              generalize hwd : World.drewN w3 nq = wd
              have hbk : Below w3.heap.size w3 wd := (by rw [← hwd]; exact below_drewN (Below.refl _ _) _)
              clear hwd
              have HB := Lib.hid (HB.out.trans (hbk.mono HB.out.size))
              clear hbk
              go_wp2
              exact ⟨⟨3 + 1, hko, by go_num, HB⟩, by simp [RowKit.intOf]⟩
             ·have hkb : ((77 : Int) == ((u[j]'hjl).toNat : Int)) = false := by rw [beq_eq_false_iff_ne]; omega
              have hko : 4 + 1 ≤ ordI (u[j]'hjl).toNat := by have h9 := HO.out; unfold ordI at h9 ⊢; (repeat' split at h9) <;> (repeat' split) <;> omega
              clear HO
              go_wp2_with fail
              go_quiet (fail)
              generalize hwd : World.drewN w3 nq = wd
              have hbk : Below w3.heap.size w3 wd := (by rw [← hwd]; exact below_drewN (Below.refl _ _) _)
              clear hwd
              have HB := Lib.hid (HB.out.trans (hbk.mono HB.out.size))
              clear hbk
              go_wp2
              exact ⟨⟨4 + 1, hko, by go_num, HB⟩, by simp [RowKit.intOf]⟩
             ·have hkb : ((83 : Int) == ((u[j]'hjl).toNat : Int)) = false := by rw [beq_eq_false_iff_ne]; omega
              have hko : 5 + 1 ≤ ordI (u[j]'hjl).toNat := by have h9 := HO.out; unfold ordI at h9 ⊢; (repeat' split at h9) <;> (repeat' split) <;> omega
              clear HO
              go_wp2_with fail
              go_quiet (fail)
              generalize hwd : World.drewN w3 nq = wd
              have hbk : Below w3.heap.size w3 wd := (by rw [← hwd]; exact below_drewN (Below.refl _ _) _)
              clear hwd
              have HB := Lib.hid (HB.out.trans (hbk.mono HB.out.size))
              clear hbk
              go_wp2
              exact ⟨⟨5 + 1, hko, by go_num, HB⟩, by simp [RowKit.intOf]⟩
             ·clear HO
              go_wp2_with fail
              go_quiet (fail)
              generalize hwd : World.drewN w3 nq = wd
              have hbk : Below w3.heap.size w3 wd := (by rw [← hwd]; exact below_drewN (Below.refl _ _) _)
              clear hwd
              have HB := Lib.hid (HB.out.trans (hbk.mono HB.out.size))
              clear hbk
              go_wp2
              exact bodyPost_ret (v := .tuple #[.int .i64 0, .bool false]) (by simp [results, Tryz.results105, go_sem]) rfl ⟨0, false, rfl, (fun h => nomatch h), HB.out⟩
         ·skip
          by_cases hj0 : j = 0
          ·have hj0i : ((j : Int) == 0) = true := by rw [beq_iff_eq]; omega
           clear hj0
           go_wp2
           exact bodyPost_ret (v := .tuple #[.int .i64 0, .bool false]) (by simp [results, Tryz.results105, go_sem]) rfl ⟨0, false, rfl, (fun h => nomatch h), HB.out⟩
          ·have hj0i : ((j : Int) == 0) = false := by rw [beq_eq_false_iff_ne]; omega
           by_cases hj4 : 4 < j
           ·have hj4i : (4 : Int) < (j : Int) := by omega
            go_wp2
            exact bodyPost_ret (v := .tuple #[.int .i64 0, .bool false]) (by simp [results, Tryz.results105, go_sem]) rfl ⟨0, false, rfl, (fun h => nomatch h), HB.out⟩
           ·have hj4i : ¬ (4 : Int) < (j : Int) := by omega
            have hds := digs_of u j (by omega) HE.out
            have hxs : (u.extract 0 j).size = j := by rw [ByteArray.size_extract]; omega
            have hin := inum_digs (u.extract 0 j) (by omega) hds (by omega)
            go_wp2_with fail
            refine (spec_inumber.calls 20 (u.extract 0 j) _ true _ hin).mono ?_
            rintro _ w2 ⟨rfl, hb⟩
            have hb := hb.below
            have HB := Lib.hid (HB.out.trans (hb.mono HB.out.size))
            obtain ⟨n, hn⟩ : ∃ n, n = dec (u.extract 0 j).toList 0 := ⟨_, rfl⟩
            rw [← hn]
            have HD := Lib.hid (And.intro hds hn)
            clear hb hds hin hn hxs
            go_wp2_with fail
            go_loopw [12] (fun s12 wq => ∃ k : Nat, k ≤ ordI (u[j]'hjl).toNat ∧ s12 = .int .i64 k ∧ Hid (Below w.heap.size w wq)) (fun s12 _ => 6 - (RowKit.intOf s12).toNat)
            case atStart => exact ⟨0, Nat.zero_le _, rfl, HB⟩
            case round =>
             clear HB
             obtain ⟨k, hk, rfl, HB⟩ := hrel
             obtain ⟨w3, rfl⟩ : ∃ w3 : World, w3 = wr := ⟨_, rfl⟩
             have h6 : ordI (u[j]'hjl).toNat ≤ 6 := by unfold ordI; (repeat' split) <;> omega
             have HO := Lib.hid hk
             have hk7 : k = 0 ∨ k = 1 ∨ k = 2 ∨ k = 3 ∨ k = 4 ∨ k = 5 ∨ k = 6 := by omega
             clear hk h6
             rcases hk7 with rfl | rfl | rfl | rfl | rfl | rfl | rfl
             ·by_cases hk6 : ((u[j]'hjl).toNat : Int) = 87
              ·skip
               have hkb : ((87 : Int) == ((u[j]'hjl).toNat : Int)) = true := by rw [beq_iff_eq]; omega
               clear HO
               go_wp2_with fail
               go_quiet (fail)
               generalize hwd : World.drewN w3 nq = wd
               have hbk : Below w3.heap.size w3 wd := (by rw [← hwd]; exact below_drewN (Below.refl _ _) _)
               clear hwd
               have HB := Lib.hid (HB.out.trans (hbk.mono HB.out.size))
               clear hbk
               by_cases ha : (0 : Int) ≤ at_
               ·go_wp2
                exact bodyPost_ret (v := .tuple #[.int .i64 0, .bool false]) (by simp [results, Tryz.results105, go_sem]) rfl ⟨0, false, rfl, (fun h => nomatch h), HB.out⟩
               ·cases tm with
                | true =>
                 go_wp2
                 exact bodyPost_ret (v := .tuple #[.int .i64 0, .bool false]) (by simp [results, Tryz.results105, go_sem]) rfl ⟨0, false, rfl, (fun h => nomatch h), HB.out⟩
                | false =>
                 by_cases hbig : (1000 : Int) < n
                 ·go_wp2
                  exact bodyPost_ret (v := .tuple #[.int .i64 0, .bool false]) (by simp [results, Tryz.results105, go_sem]) rfl ⟨0, false, rfl, (fun h => nomatch h), HB.out⟩
                 ·by_cases hz : at_ = 0
                  ·have hzb : (at_ == 0) = true := by rw [beq_iff_eq]; exact hz
                   clear hz
                   go_wp2
                   exact bodyPost_ret (v := .tuple #[.int .i64 0, .bool false]) (by simp [results, Tryz.results105, go_sem]) rfl ⟨0, false, rfl, (fun h => nomatch h), HB.out⟩
                  ·have hzb : (at_ == 0) = false := by rw [beq_eq_false_iff_ne]; exact hz
                   cases sm with
                   | true =>
                    go_wp2
                    exact bodyPost_ret (v := .tuple #[.int .i64 0, .bool false]) (by simp [results, Tryz.results105, go_sem]) rfl ⟨0, false, rfl, (fun h => nomatch h), HB.out⟩
                   | false =>
                    have hsg : SegT u j 87 n := ⟨hjl, by omega, by omega, HD.out.1, HE.out, by omega, HD.out.2, by omega⟩
                    have hw : Wt false 87 604800 := Or.inl ⟨rfl, Or.inr ⟨rfl, rfl⟩⟩
                    have hI := HI.out.seg hsg hw (ix := 0) (by omega) (by omega) (by omega) (fun h => by first | omega | cases h)
                    have hn0 := hsg.nonneg
                    have hI0 := hI.s0
                    have hI1 := hI.s1
                    have hsz : (u.extract (j + 1) u.size).size = u.size - (j + 1) := ex_size u (j + 1)
                    have HI2 := Lib.hid hI
                    have hj1 : (j : Int) + 1 ≤ (u.size : Int) := by omega
                    clear hI hsg hw HI HD HE
                    go_wp2
                    have HB := Lib.hid (HB.out.alloc HB.out.size (.cells #[.int .i64 604800, .int .i64 86400, .int .i64 0, .int .i64 3600, .int .i64 60, .int .i64 1] 2))
                    go_roundg (u.extract (j + 1) u.size).size
                    case measure => omega
                    case rel => exact ⟨u.extract (j + 1) u.size, 0, sum + n * 604800, false, true, rfl, by omega, by go_num, rfl, by go_num, rfl, rfl, HI2, HB⟩
              ·have hkb : ((87 : Int) == ((u[j]'hjl).toNat : Int)) = false := by rw [beq_eq_false_iff_ne]; omega
               have hko : 0 + 1 ≤ ordI (u[j]'hjl).toNat := by have h9 := HO.out; unfold ordI at h9 ⊢; (repeat' split at h9) <;> (repeat' split) <;> omega
               clear HO
               go_wp2_with fail
               go_quiet (fail)
               generalize hwd : World.drewN w3 nq = wd
               have hbk : Below w3.heap.size w3 wd := (by rw [← hwd]; exact below_drewN (Below.refl _ _) _)
               clear hwd
               have HB := Lib.hid (HB.out.trans (hbk.mono HB.out.size))
               clear hbk
               go_wp2
               exact ⟨⟨0 + 1, hko, by go_num, HB⟩, by simp [RowKit.intOf]⟩
             ·by_cases hk6 : ((u[j]'hjl).toNat : Int) = 68
              ·skip
               have hkb : ((68 : Int) == ((u[j]'hjl).toNat : Int)) = true := by rw [beq_iff_eq]; omega
               clear HO
               go_wp2_with fail
               go_quiet (fail)
               generalize hwd : World.drewN w3 nq = wd
               have hbk : Below w3.heap.size w3 wd := (by rw [← hwd]; exact below_drewN (Below.refl _ _) _)
               clear hwd
               have HB := Lib.hid (HB.out.trans (hbk.mono HB.out.size))
               clear hbk
               by_cases ha : (1 : Int) ≤ at_
               ·go_wp2
                exact bodyPost_ret (v := .tuple #[.int .i64 0, .bool false]) (by simp [results, Tryz.results105, go_sem]) rfl ⟨0, false, rfl, (fun h => nomatch h), HB.out⟩
               ·cases tm with
                | true =>
                 go_wp2
                 exact bodyPost_ret (v := .tuple #[.int .i64 0, .bool false]) (by simp [results, Tryz.results105, go_sem]) rfl ⟨0, false, rfl, (fun h => nomatch h), HB.out⟩
                | false =>
                 by_cases hbig : (1000 : Int) < n
                 ·go_wp2
                  exact bodyPost_ret (v := .tuple #[.int .i64 0, .bool false]) (by simp [results, Tryz.results105, go_sem]) rfl ⟨0, false, rfl, (fun h => nomatch h), HB.out⟩
                 ·by_cases hz : at_ = 0
                  ·have hzb : (at_ == 0) = true := by rw [beq_iff_eq]; exact hz
                   clear hz
                   go_wp2
                   exact bodyPost_ret (v := .tuple #[.int .i64 0, .bool false]) (by simp [results, Tryz.results105, go_sem]) rfl ⟨0, false, rfl, (fun h => nomatch h), HB.out⟩
                  ·have hzb : (at_ == 0) = false := by rw [beq_eq_false_iff_ne]; exact hz
                   have hsg : SegT u j 68 n := ⟨hjl, by omega, by omega, HD.out.1, HE.out, by omega, HD.out.2, by omega⟩
                   have hw : Wt false 68 86400 := Or.inl ⟨rfl, Or.inl ⟨rfl, rfl⟩⟩
                   have hI := HI.out.seg hsg hw (ix := 1) (by omega) (by omega) (by omega) (fun h => by first | omega | cases h)
                   have hn0 := hsg.nonneg
                   have hI0 := hI.s0
                   have hI1 := hI.s1
                   have hsz : (u.extract (j + 1) u.size).size = u.size - (j + 1) := ex_size u (j + 1)
                   have HI2 := Lib.hid hI
                   have hj1 : (j : Int) + 1 ≤ (u.size : Int) := by omega
                   clear hI hsg hw HI HD HE
                   go_wp2
                   have HB := Lib.hid (HB.out.alloc HB.out.size (.cells #[.int .i64 604800, .int .i64 86400, .int .i64 0, .int .i64 3600, .int .i64 60, .int .i64 1] 2))
                   go_roundg (u.extract (j + 1) u.size).size
                   case measure => omega
                   case rel => exact ⟨u.extract (j + 1) u.size, 1, sum + n * 86400, false, true, rfl, by omega, by go_num, rfl, by go_num, rfl, rfl, HI2, HB⟩
              ·have hkb : ((68 : Int) == ((u[j]'hjl).toNat : Int)) = false := by rw [beq_eq_false_iff_ne]; omega
               have hko : 1 + 1 ≤ ordI (u[j]'hjl).toNat := by have h9 := HO.out; unfold ordI at h9 ⊢; (repeat' split at h9) <;> (repeat' split) <;> omega
               clear HO
               go_wp2_with fail
               go_quiet (fail)
               generalize hwd : World.drewN w3 nq = wd
               have hbk : Below w3.heap.size w3 wd := (by rw [← hwd]; exact below_drewN (Below.refl _ _) _)
               clear hwd
               have HB := Lib.hid (HB.out.trans (hbk.mono HB.out.size))
               clear hbk
               go_wp2
               exact ⟨⟨1 + 1, hko, by go_num, HB⟩, by simp [RowKit.intOf]⟩
             ·by_cases hk6 : ((u[j]'hjl).toNat : Int) = 84
              ·skip
               have hkb : ((84 : Int) == ((u[j]'hjl).toNat : Int)) = true := by rw [beq_iff_eq]; omega
               clear HO
               go_wp2_with fail
               go_quiet (fail)
               generalize hwd : World.drewN w3 nq = wd
               have hbk : Below w3.heap.size w3 wd := (by rw [← hwd]; exact below_drewN (Below.refl _ _) _)
               clear hwd
               have HB := Lib.hid (HB.out.trans (hbk.mono HB.out.size))
               clear hbk
               go_wp2
               exact bodyPost_ret (v := .tuple #[.int .i64 0, .bool false]) (by simp [results, Tryz.results105, go_sem]) rfl ⟨0, false, rfl, (fun h => nomatch h), HB.out⟩
              ·have hkb : ((84 : Int) == ((u[j]'hjl).toNat : Int)) = false := by rw [beq_eq_false_iff_ne]; omega
               have hko : 2 + 1 ≤ ordI (u[j]'hjl).toNat := by have h9 := HO.out; unfold ordI at h9 ⊢; (repeat' split at h9) <;> (repeat' split) <;> omega
               clear HO
               go_wp2_with fail
               go_quiet (fail)
               generalize hwd : World.drewN w3 nq = wd
               have hbk : Below w3.heap.size w3 wd := (by rw [← hwd]; exact below_drewN (Below.refl _ _) _)
               clear hwd
               have HB := Lib.hid (HB.out.trans (hbk.mono HB.out.size))
               clear hbk
               go_wp2
               exact ⟨⟨2 + 1, hko, by go_num, HB⟩, by simp [RowKit.intOf]⟩
             ·by_cases hk6 : ((u[j]'hjl).toNat : Int) = 72
              ·skip
               have hkb : ((72 : Int) == ((u[j]'hjl).toNat : Int)) = true := by rw [beq_iff_eq]; omega
               clear HO
               go_wp2_with fail
               go_quiet (fail)
               generalize hwd : World.drewN w3 nq = wd
               have hbk : Below w3.heap.size w3 wd := (by rw [← hwd]; exact below_drewN (Below.refl _ _) _)
               clear hwd
               have HB := Lib.hid (HB.out.trans (hbk.mono HB.out.size))
               clear hbk
               by_cases ha : (3 : Int) ≤ at_
               ·go_wp2
                exact bodyPost_ret (v := .tuple #[.int .i64 0, .bool false]) (by simp [results, Tryz.results105, go_sem]) rfl ⟨0, false, rfl, (fun h => nomatch h), HB.out⟩
               ·cases tm with
                | false =>
                 go_wp2
                 exact bodyPost_ret (v := .tuple #[.int .i64 0, .bool false]) (by simp [results, Tryz.results105, go_sem]) rfl ⟨0, false, rfl, (fun h => nomatch h), HB.out⟩
                | true =>
                 by_cases hbig : (1000 : Int) < n
                 ·go_wp2
                  exact bodyPost_ret (v := .tuple #[.int .i64 0, .bool false]) (by simp [results, Tryz.results105, go_sem]) rfl ⟨0, false, rfl, (fun h => nomatch h), HB.out⟩
                 ·by_cases hz : at_ = 0
                  ·have hzb : (at_ == 0) = true := by rw [beq_iff_eq]; exact hz
                   clear hz
                   go_wp2
                   exact bodyPost_ret (v := .tuple #[.int .i64 0, .bool false]) (by simp [results, Tryz.results105, go_sem]) rfl ⟨0, false, rfl, (fun h => nomatch h), HB.out⟩
                  ·have hzb : (at_ == 0) = false := by rw [beq_eq_false_iff_ne]; exact hz
                   have hsg : SegT u j 72 n := ⟨hjl, by omega, by omega, HD.out.1, HE.out, by omega, HD.out.2, by omega⟩
                   have hw : Wt true 72 3600 := Or.inr ⟨rfl, Or.inl ⟨rfl, rfl⟩⟩
                   have hI := HI.out.seg hsg hw (ix := 3) (by omega) (by omega) (by omega) (fun h => by first | omega | cases h)
                   have hn0 := hsg.nonneg
                   have hI0 := hI.s0
                   have hI1 := hI.s1
                   have hsz : (u.extract (j + 1) u.size).size = u.size - (j + 1) := ex_size u (j + 1)
                   have HI2 := Lib.hid hI
                   have hj1 : (j : Int) + 1 ≤ (u.size : Int) := by omega
                   clear hI hsg hw HI HD HE
                   go_wp2
                   have HB := Lib.hid (HB.out.alloc HB.out.size (.cells #[.int .i64 604800, .int .i64 86400, .int .i64 0, .int .i64 3600, .int .i64 60, .int .i64 1] 2))
                   go_roundg (u.extract (j + 1) u.size).size
                   case measure => omega
                   case rel => exact ⟨u.extract (j + 1) u.size, 3, sum + n * 3600, true, true, rfl, by omega, by go_num, rfl, by go_num, rfl, rfl, HI2, HB⟩
              ·have hkb : ((72 : Int) == ((u[j]'hjl).toNat : Int)) = false := by rw [beq_eq_false_iff_ne]; omega
               have hko : 3 + 1 ≤ ordI (u[j]'hjl).toNat := by have h9 := HO.out; unfold ordI at h9 ⊢; (repeat' split at h9) <;> (repeat' split) <;> omega
               clear HO
               go_wp2_with fail
               go_quiet (fail)
               generalize hwd : World.drewN w3 nq = wd
               have hbk : Below w3.heap.size w3 wd := (by rw [← hwd]; exact below_drewN (Below.refl _ _) _)
               clear hwd
               have HB := Lib.hid (HB.out.trans (hbk.mono HB.out.size))
               clear hbk
               go_wp2
               exact ⟨⟨3 + 1, hko, by go_num, HB⟩, by simp [RowKit.intOf]⟩
             ·by_cases hk6 : ((u[j]'hjl).toNat : Int) = 77
              ·skip
               have hkb : ((77 : Int) == ((u[j]'hjl).toNat : Int)) = true := by rw [beq_iff_eq]; omega
               clear HO
               go_wp2_with fail
               go_quiet (fail)
               generalize hwd : World.drewN w3 nq = wd
               have hbk : Below w3.heap.size w3 wd := (by rw [← hwd]; exact below_drewN (Below.refl _ _) _)
               clear hwd
               have HB := Lib.hid (HB.out.trans (hbk.mono HB.out.size))
               clear hbk
               by_cases ha : (4 : Int) ≤ at_
               ·go_wp2
                exact bodyPost_ret (v := .tuple #[.int .i64 0, .bool false]) (by simp [results, Tryz.results105, go_sem]) rfl ⟨0, false, rfl, (fun h => nomatch h), HB.out⟩
               ·cases tm with
                | false =>
                 go_wp2
                 exact bodyPost_ret (v := .tuple #[.int .i64 0, .bool false]) (by simp [results, Tryz.results105, go_sem]) rfl ⟨0, false, rfl, (fun h => nomatch h), HB.out⟩
                | true =>
                 by_cases hbig : (1000 : Int) < n
                 ·go_wp2
                  exact bodyPost_ret (v := .tuple #[.int .i64 0, .bool false]) (by simp [results, Tryz.results105, go_sem]) rfl ⟨0, false, rfl, (fun h => nomatch h), HB.out⟩
                 ·by_cases hz : at_ = 0
                  ·have hzb : (at_ == 0) = true := by rw [beq_iff_eq]; exact hz
                   clear hz
                   go_wp2
                   exact bodyPost_ret (v := .tuple #[.int .i64 0, .bool false]) (by simp [results, Tryz.results105, go_sem]) rfl ⟨0, false, rfl, (fun h => nomatch h), HB.out⟩
                  ·have hzb : (at_ == 0) = false := by rw [beq_eq_false_iff_ne]; exact hz
                   have hsg : SegT u j 77 n := ⟨hjl, by omega, by omega, HD.out.1, HE.out, by omega, HD.out.2, by omega⟩
                   have hw : Wt true 77 60 := Or.inr ⟨rfl, Or.inr (Or.inl ⟨rfl, rfl⟩)⟩
                   have hI := HI.out.seg hsg hw (ix := 4) (by omega) (by omega) (by omega) (fun h => by first | omega | cases h)
                   have hn0 := hsg.nonneg
                   have hI0 := hI.s0
                   have hI1 := hI.s1
                   have hsz : (u.extract (j + 1) u.size).size = u.size - (j + 1) := ex_size u (j + 1)
                   have HI2 := Lib.hid hI
                   have hj1 : (j : Int) + 1 ≤ (u.size : Int) := by omega
                   clear hI hsg hw HI HD HE
                   go_wp2
                   have HB := Lib.hid (HB.out.alloc HB.out.size (.cells #[.int .i64 604800, .int .i64 86400, .int .i64 0, .int .i64 3600, .int .i64 60, .int .i64 1] 2))
                   go_roundg (u.extract (j + 1) u.size).size
                   case measure => omega
                   case rel => exact ⟨u.extract (j + 1) u.size, 4, sum + n * 60, true, true, rfl, by omega, by go_num, rfl, by go_num, rfl, rfl, HI2, HB⟩
              ·have hkb : ((77 : Int) == ((u[j]'hjl).toNat : Int)) = false := by rw [beq_eq_false_iff_ne]; omega
               have hko : 4 + 1 ≤ ordI (u[j]'hjl).toNat := by have h9 := HO.out; unfold ordI at h9 ⊢; (repeat' split at h9) <;> (repeat' split) <;> omega
               clear HO
               go_wp2_with fail
               go_quiet (fail)
               generalize hwd : World.drewN w3 nq = wd
               have hbk : Below w3.heap.size w3 wd := (by rw [← hwd]; exact below_drewN (Below.refl _ _) _)
               clear hwd
               have HB := Lib.hid (HB.out.trans (hbk.mono HB.out.size))
               clear hbk
               go_wp2
               exact ⟨⟨4 + 1, hko, by go_num, HB⟩, by simp [RowKit.intOf]⟩
             ·by_cases hk6 : ((u[j]'hjl).toNat : Int) = 83
              ·skip
               have hkb : ((83 : Int) == ((u[j]'hjl).toNat : Int)) = true := by rw [beq_iff_eq]; omega
               clear HO
               go_wp2_with fail
               go_quiet (fail)
               generalize hwd : World.drewN w3 nq = wd
               have hbk : Below w3.heap.size w3 wd := (by rw [← hwd]; exact below_drewN (Below.refl _ _) _)
               clear hwd
               have HB := Lib.hid (HB.out.trans (hbk.mono HB.out.size))
               clear hbk
               by_cases ha : (5 : Int) ≤ at_
               ·go_wp2
                exact bodyPost_ret (v := .tuple #[.int .i64 0, .bool false]) (by simp [results, Tryz.results105, go_sem]) rfl ⟨0, false, rfl, (fun h => nomatch h), HB.out⟩
               ·cases tm with
                | false =>
                 go_wp2
                 exact bodyPost_ret (v := .tuple #[.int .i64 0, .bool false]) (by simp [results, Tryz.results105, go_sem]) rfl ⟨0, false, rfl, (fun h => nomatch h), HB.out⟩
                | true =>
                 by_cases hbig : (1000 : Int) < n
                 ·go_wp2
                  exact bodyPost_ret (v := .tuple #[.int .i64 0, .bool false]) (by simp [results, Tryz.results105, go_sem]) rfl ⟨0, false, rfl, (fun h => nomatch h), HB.out⟩
                 ·by_cases hz : at_ = 0
                  ·have hzb : (at_ == 0) = true := by rw [beq_iff_eq]; exact hz
                   clear hz
                   go_wp2
                   exact bodyPost_ret (v := .tuple #[.int .i64 0, .bool false]) (by simp [results, Tryz.results105, go_sem]) rfl ⟨0, false, rfl, (fun h => nomatch h), HB.out⟩
                  ·have hzb : (at_ == 0) = false := by rw [beq_eq_false_iff_ne]; exact hz
                   have hsg : SegT u j 83 n := ⟨hjl, by omega, by omega, HD.out.1, HE.out, by omega, HD.out.2, by omega⟩
                   have hw : Wt true 83 1 := Or.inr ⟨rfl, Or.inr (Or.inr ⟨rfl, rfl⟩)⟩
                   have hI := HI.out.seg hsg hw (ix := 5) (by omega) (by omega) (by omega) (fun h => by first | omega | cases h)
                   have hn0 := hsg.nonneg
                   have hI0 := hI.s0
                   have hI1 := hI.s1
                   have hsz : (u.extract (j + 1) u.size).size = u.size - (j + 1) := ex_size u (j + 1)
                   have HI2 := Lib.hid hI
                   have hj1 : (j : Int) + 1 ≤ (u.size : Int) := by omega
                   clear hI hsg hw HI HD HE
                   go_wp2
                   have HB := Lib.hid (HB.out.alloc HB.out.size (.cells #[.int .i64 604800, .int .i64 86400, .int .i64 0, .int .i64 3600, .int .i64 60, .int .i64 1] 2))
                   go_roundg (u.extract (j + 1) u.size).size
                   case measure => omega
                   case rel => exact ⟨u.extract (j + 1) u.size, 5, sum + n * 1, true, true, rfl, by omega, by go_num, rfl, by go_num, rfl, rfl, HI2, HB⟩
              ·have hkb : ((83 : Int) == ((u[j]'hjl).toNat : Int)) = false := by rw [beq_eq_false_iff_ne]; omega
               have hko : 5 + 1 ≤ ordI (u[j]'hjl).toNat := by have h9 := HO.out; unfold ordI at h9 ⊢; (repeat' split at h9) <;> (repeat' split) <;> omega
               clear HO
               go_wp2_with fail
               go_quiet (fail)
               generalize hwd : World.drewN w3 nq = wd
               have hbk : Below w3.heap.size w3 wd := (by rw [← hwd]; exact below_drewN (Below.refl _ _) _)
               clear hwd
               have HB := Lib.hid (HB.out.trans (hbk.mono HB.out.size))
               clear hbk
               go_wp2
               exact ⟨⟨5 + 1, hko, by go_num, HB⟩, by simp [RowKit.intOf]⟩
             ·clear HO
              go_wp2_with fail
              go_quiet (fail)
              generalize hwd : World.drewN w3 nq = wd
              have hbk : Below w3.heap.size w3 wd := (by rw [← hwd]; exact below_drewN (Below.refl _ _) _)
              clear hwd
              have HB := Lib.hid (HB.out.trans (hbk.mono HB.out.size))
              clear hbk
              go_wp2
              exact bodyPost_ret (v := .tuple #[.int .i64 0, .bool false]) (by simp [results, Tryz.results105, go_sem]) rfl ⟨0, false, rfl, (fun h => nomatch h), HB.out⟩
       ·obtain rfl : j = u.size := by omega
        have hz0 : ((u.size : Int) == 0) = false := by rw [beq_eq_false_iff_ne]; omega
        by_cases h4 : 4 < u.size
        ·have h4i : (4 : Int) < (u.size : Int) := by omega
         go_wp2
         exact bodyPost_ret (v := .tuple #[.int .i64 0, .bool false]) (by simp [results, Tryz.results105, go_sem]) rfl ⟨0, false, rfl, (fun h => nomatch h), HB.out⟩
        ·have h4i : ¬ (4 : Int) < (u.size : Int) := by omega
         go_wp2
         exact bodyPost_ret (v := .tuple #[.int .i64 0, .bool false]) (by simp [results, Tryz.results105, go_sem]) rfl ⟨0, false, rfl, (fun h => nomatch h), HB.out⟩
  ·have hPi : ¬ ((s[0]'h0).toNat : Int) = 80 := by omega
   go_wp2
   exact bodyPost_ret (v := .tuple #[.int .i64 0, .bool false]) (by simp [results, Tryz.results105, go_sem]) rfl ⟨0, false, rfl, (fun h => nomatch h), HB.out⟩
end Go.Proofs.YtcllaplddebilaaGreatDoor

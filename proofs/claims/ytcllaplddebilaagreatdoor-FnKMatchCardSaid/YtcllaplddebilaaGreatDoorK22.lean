/- laws.FnKMatch: a part of the proof: SeenQ. -/
import Derived.Test.YtcllaplddebilaaGreatDoorK20
import Derived.Test.YtcllaplddebilaaGreatDoorK21
set_option maxRecDepth 1000000
set_option maxHeartbeats 64000000
set_option linter.unusedVariables false
set_option linter.unusedSimpArgs false
namespace Go.Proofs.YtcllaplddebilaaGreatDoor
open Go.RowKit Go.Sort
attribute [local go_sem] cell?_grow frozen?_grow cell?_redrawn frozen?_redrawn size_redrawn size_grow ba_get ba_extract
attribute [local simp] size_redrawn
open Go.Lib Go.Proofs.YtcllaplddebilaaGreatDoorW.PrintWords Go.Proofs.YtcllaplddebilaaGreatDoorW.PrintLast Go.Proofs.YtcllaplddebilaaGreatDoorW.PrintMore PFnKMatch
set_option maxHeartbeats 64000000
noncomputable def fstC : Code → Code
 | .seq a _ => a
 | c => c
noncomputable def sndC : Code → Code
 | .seq _ b => b
 | c => c
noncomputable def thenC : Code → Code
 | .cond _ a _ => a
 | c => c
noncomputable def pC : Code := Tryz.f69.body.getD .skip
noncomputable def pC4 : Code := sndC (sndC (sndC pC))
noncomputable def pR4 : Code := fstC pC4
noncomputable def pL : Code := fstC (sndC (sndC pC4))
noncomputable def pT : Code := sndC (sndC (sndC pC4))
noncomputable def pH : Code := sndC (thenC (sndC (fstC pT)))
noncomputable def pR13 : Code := fstC pH
noncomputable def pR14 : Code := fstC (sndC pH)
noncomputable def pR15 : Code := fstC (sndC pT)
theorem prop_fin {f : ByteArray → Option ByteArray} {fp : KPr} {ps : List S75} {p : S75} (hf : firstP ps fp.name = some p) (ht : TabOk f) (h1 : fp.absent = false) (h2 : fp.hasEnd = fp.has) (h3 : fp.has = true → fp.name ∈ momNames) (h4 : fp.has = true → (imo p).2.2 = true) : PropOk f fp ps := by
 intro p' hp'
 rw [hf] at hp'
 injection hp' with hp'
 subst hp'
 refine ⟨h1, h2, fun h => (momP_of ?_ (h4 h)).1⟩
 rw [(firstP_mem hf).2]
 exact ht.1 _ (h3 h)
theorem propV_some {fp : KPr} {ps : List S75} {p : S75} (hf : firstP ps fp.name = some p) : propV fp ps = (parsV fp.params p && (if fp.has then decide (fp.st < (imo p).1) && decide ((imo p).1 < fp.en) else textV fp.text p.f2)) := by
 unfold propV
 rw [hf]
section
variable {u0 u1 u2 u3 u4 u5 u6 u7 u8 u9 u10 u11 u12 u13 u14 u15 u16 u17 u18 u19 u20 u21 u22 u23 u24 u25 u26 u27 u28 u29 u30 u31 u32 u33 u34 u35 u36 u37 u38 u39 u40 u41 u42 u43 u44 u45 u46 u47 u48 u49 u50 u51 u52 u53 u54 u55 u56 u57 u58 u59 u60 u61 u62 u63 u64 u65 u66 u67 u68 u69 u70 u71 u72 u73 u74 u75 u76 u77 u78 u79 u80 u81 u82 u83 u84 u85 u86 u87 u88 u89 u90 u91 u92 u93 u94 u95 u96 u97 u98 u99 u100 u101 u102 u103 u104 u105 u106 u107 u108 u109 u110 u111 u112 u113 u114 u115 u116 u117 u118 u119 u120 u121 u122 u123 u124 u125 u126 u127 u128 u129 u130 u131 u132 u133 u134 u135 u136 u137 u138 u139 u140 u141 u142 u143 u144 u145 u146 u147 u148 u149 u150 u151 u152 u153 u154 u155 u156 u157 u158 : Value}
theorem segP4 (w : World) (O P dn : Nat) (fp : KPr) (tp PV : Option Addr) (pvc : Nat) (p : S75) (V : Option Addr) (cv : Nat) (hOP : O < P) (hOD : O < dn) (o1 : Bool) (n : Int) (w0 : World) (hT : TxtAt w0 tp fp.text)  (hC : w.heap[O]? = some (.cells #[.bool o1] 85)) (hF : w.heap[P]? = some (.cells #[.string fp.name, .bool fp.absent, .bool fp.has, .bool fp.hasEnd, .int .i64 fp.st, .int .i64 fp.en, .pointer tp, .slice PV fp.params.length pvc] 147)) (hD : w.heap[dn]? = some (.cells #[.string p.f0, .slice V p.f1.length cv, .string p.f2] 75)) (K : Act → World → Prop) (Q : Exit → Act → World → Prop)
  (hK : ∀ (o2 : Bool) (w' : World), w'.heap[O]? = some (.cells #[.bool o2] 85) → w'.heap[P]? = some (.cells #[.string fp.name, .bool fp.absent, .bool fp.has, .bool fp.hasEnd, .int .i64 fp.st, .int .i64 fp.en, .pointer tp, .slice PV fp.params.length pvc] 147) → w'.heap[dn]? = some (.cells #[.string p.f0, .slice V p.f1.length cv, .string p.f2] 75) → Only [O] w w' → (o2 = false → o1 = false ∧ fp.absent = false ∧ fp.hasEnd = fp.has ∧ (fp.has = true → fp.name ∈ momNames)) → ∀ {y26 y27 y28 y29 y30 y31 y32 y33 y34 y35 y36 y37 y38 y39 y40 y41 y42 y43 y44 y45 y46 y47 y48 y49 y50 y51 y52 y53 y54 y55 y56 y57 y58 y59 y60 y61 y62 : Value}, K ⟨#[.pointer (some ⟨O, 0, none⟩), u1, u2, u3, .pointer (some ⟨P, 0, none⟩), u5, u6, .pointer (some ⟨dn, 0, none⟩), .int .i64 n, u9, u10, u11, u12, u13, u14, u15, u16, u17, u18, u19, u20, u21, u22, u23, u24, u25, y26, y27, y28, y29, y30, y31, y32, y33, y34, y35, y36, y37, y38, y39, y40, y41, y42, y43, y44, y45, y46, y47, y48, y49, y50, y51, y52, y53, y54, y55, y56, y57, y58, y59, y60, y61, y62, u63, u64, u65, u66, u67, u68, u69, u70, u71, u72, u73, u74, u75, u76, u77, u78, u79, u80, u81, u82, u83, u84, u85, u86, u87, u88, u89, u90, u91, u92, u93, u94, u95, u96, u97, u98, u99, u100, u101, u102, u103, u104, u105, u106, u107, u108, u109, u110, u111, u112, u113, u114, u115, u116, u117, u118, u119, u120, u121, u122, u123, u124, u125, u126, u127, u128, u129, u130, u131, u132, u133, u134, u135, u136, u137, u138, u139, u140, u141, u142, u143, u144, u145, u146, u147, u148, u149, u150, u151, u152, u153, u154, u155, u156, u157, u158], []⟩ w') :
  Code.wp Tryz.prog pR4 (Exit.then K Q) ⟨#[.pointer (some ⟨O, 0, none⟩), u1, u2, u3, .pointer (some ⟨P, 0, none⟩), u5, u6, .pointer (some ⟨dn, 0, none⟩), .int .i64 n, u9, u10, u11, u12, u13, u14, u15, u16, u17, u18, u19, u20, u21, u22, u23, u24, u25, u26, u27, u28, u29, u30, u31, u32, u33, u34, u35, u36, u37, u38, u39, u40, u41, u42, u43, u44, u45, u46, u47, u48, u49, u50, u51, u52, u53, u54, u55, u56, u57, u58, u59, u60, u61, u62, u63, u64, u65, u66, u67, u68, u69, u70, u71, u72, u73, u74, u75, u76, u77, u78, u79, u80, u81, u82, u83, u84, u85, u86, u87, u88, u89, u90, u91, u92, u93, u94, u95, u96, u97, u98, u99, u100, u101, u102, u103, u104, u105, u106, u107, u108, u109, u110, u111, u112, u113, u114, u115, u116, u117, u118, u119, u120, u121, u122, u123, u124, u125, u126, u127, u128, u129, u130, u131, u132, u133, u134, u135, u136, u137, u138, u139, u140, u141, u142, u143, u144, u145, u146, u147, u148, u149, u150, u151, u152, u153, u154, u155, u156, u157, u158], []⟩ w := by
 conv => arg 2; whnf
 obtain ⟨ab, hab⟩ : ∃ b, fp.absent = b := ⟨_, rfl⟩
 obtain ⟨hv, hhv⟩ : ∃ b, fp.has = b := ⟨_, rfl⟩
 obtain ⟨he, hhe⟩ : ∃ b, fp.hasEnd = b := ⟨_, rfl⟩
 have f0 : w.cell? ⟨P, 0, none⟩ = some (.string fp.name) := (cell_blk hF 0).trans rfl
 have f1 : w.cell? ⟨P, 1, none⟩ = some (.bool ab) := by rw [← hab]; exact (cell_blk hF 1).trans rfl
 have f2 : w.cell? ⟨P, 2, none⟩ = some (.bool hv) := by rw [← hhv]; exact (cell_blk hF 2).trans rfl
 have f3 : w.cell? ⟨P, 3, none⟩ = some (.bool he) := by rw [← hhe]; exact (cell_blk hF 3).trans rfl
 have f6 : w.cell? ⟨P, 6, none⟩ = some (.pointer tp) := (cell_blk hF 6).trans rfl
 have r1 : w.frozen? ⟨O, 0, none⟩ = false := frozen_blk hC 0 (by omega)
 have r0 : w.cell? ⟨O, 0, none⟩ = some (.bool o1) := (cell_blk hC 0).trans rfl
 have HAB := hI hab
 have HHV := hI hhv
 have HHE := hI hhe
 have HT := hI hT
 have HC := hI hC
 have HF := hI hF
 have HD := hI hD
 clear hC hF hD hab hhv hhe hT
 cases o1 with
 | true =>
  have C2 := hI (set_blk HC.out 0 (.bool true))
  have F2 := hI ((Below.heap_setCell w ⟨O, 0, none⟩ (.bool true) P (by show P ≠ O; omega)).trans HF.out)
  have D2 := hI ((Below.heap_setCell w ⟨O, 0, none⟩ (.bool true) dn (by show dn ≠ O; omega)).trans HD.out)
  have O2 := hI ((Only.refl [O] w).setCell (p := ⟨O, 0, none⟩) (by simp) (.bool true))
  go_wp2_with fail
  exact hK true _ C2.out F2.out D2.out O2.out (fun h => nomatch h)
 | false =>
  by_cases hn2 : 1 < n
  ·skip
   have C2 := hI (set_blk HC.out 0 (.bool true))
   have F2 := hI ((Below.heap_setCell w ⟨O, 0, none⟩ (.bool true) P (by show P ≠ O; omega)).trans HF.out)
   have D2 := hI ((Below.heap_setCell w ⟨O, 0, none⟩ (.bool true) dn (by show dn ≠ O; omega)).trans HD.out)
   have O2 := hI ((Only.refl [O] w).setCell (p := ⟨O, 0, none⟩) (by simp) (.bool true))
   go_wp2_with fail
   exact hK true _ C2.out F2.out D2.out O2.out (fun h => nomatch h)
  ·cases ab with
   | true =>
    have C2 := hI (set_blk HC.out 0 (.bool true))
    have F2 := hI ((Below.heap_setCell w ⟨O, 0, none⟩ (.bool true) P (by show P ≠ O; omega)).trans HF.out)
    have D2 := hI ((Below.heap_setCell w ⟨O, 0, none⟩ (.bool true) dn (by show dn ≠ O; omega)).trans HD.out)
    have O2 := hI ((Only.refl [O] w).setCell (p := ⟨O, 0, none⟩) (by simp) (.bool true))
    go_wp2_with fail
    exact hK true _ C2.out F2.out D2.out O2.out (fun h => nomatch h)
   | false =>
    cases hv with
    | false =>
     cases he with
     | true =>
      have C2 := hI (set_blk HC.out 0 (.bool true))
      have F2 := hI ((Below.heap_setCell w ⟨O, 0, none⟩ (.bool true) P (by show P ≠ O; omega)).trans HF.out)
      have D2 := hI ((Below.heap_setCell w ⟨O, 0, none⟩ (.bool true) dn (by show dn ≠ O; omega)).trans HD.out)
      have O2 := hI ((Only.refl [O] w).setCell (p := ⟨O, 0, none⟩) (by simp) (.bool true))
      go_wp2_with fail
      exact hK true _ C2.out F2.out D2.out O2.out (fun h => nomatch h)
     | false =>
      have C2 := hI (set_blk HC.out 0 (.bool false))
      have F2 := hI ((Below.heap_setCell w ⟨O, 0, none⟩ (.bool false) P (by show P ≠ O; omega)).trans HF.out)
      have D2 := hI ((Below.heap_setCell w ⟨O, 0, none⟩ (.bool false) dn (by show dn ≠ O; omega)).trans HD.out)
      have O2 := hI ((Only.refl [O] w).setCell (p := ⟨O, 0, none⟩) (by simp) (.bool false))
      go_wp2_with fail
      exact hK false _ C2.out F2.out D2.out O2.out (fun _ => ⟨(by first | rfl | trivial), HAB.out, by rw [HHE.out, HHV.out], fun h => by rw [HHV.out] at h; cases h⟩)
    | true =>
     cases he with
     | false =>
      have C2 := hI (set_blk HC.out 0 (.bool true))
      have F2 := hI ((Below.heap_setCell w ⟨O, 0, none⟩ (.bool true) P (by show P ≠ O; omega)).trans HF.out)
      have D2 := hI ((Below.heap_setCell w ⟨O, 0, none⟩ (.bool true) dn (by show dn ≠ O; omega)).trans HD.out)
      have O2 := hI ((Only.refl [O] w).setCell (p := ⟨O, 0, none⟩) (by simp) (.bool true))
      go_wp2_with fail
      exact hK true _ C2.out F2.out D2.out O2.out (fun h => nomatch h)
     | true =>
      cases htx : fp.text with
      | some t =>
       obtain ⟨tb, tof, rfl, _, _⟩ : ∃ b o : Nat, tp = some ⟨b, o, none⟩ ∧ w0.cell? ⟨b, o, none⟩ = some (.string t.1) ∧ w0.cell? ⟨b, o + 1, none⟩ = some (.bool t.2) := by have := HT.out; rw [htx] at this; exact this
       clear htx
       have C2 := hI (set_blk HC.out 0 (.bool true))
       have F2 := hI ((Below.heap_setCell w ⟨O, 0, none⟩ (.bool true) P (by show P ≠ O; omega)).trans HF.out)
       have D2 := hI ((Below.heap_setCell w ⟨O, 0, none⟩ (.bool true) dn (by show dn ≠ O; omega)).trans HD.out)
       have O2 := hI ((Only.refl [O] w).setCell (p := ⟨O, 0, none⟩) (by simp) (.bool true))
       go_wp2_with fail
       exact hK true _ C2.out F2.out D2.out O2.out (fun h => nomatch h)
      | none =>
       obtain rfl : tp = none := by have := HT.out; rw [htx] at this; exact this
       clear htx
       obtain ⟨mb, hmb, hmc⟩ := moments_ex fp.name
       have HMB := hI hmb
       clear hmb
       go_wp2_with fail
       refine (hmc _).mono ?_
       rintro _ wy ⟨rfl, hb⟩
       have HC := hI (below_blk hb HC.out)
       have HF := hI (below_blk hb HF.out)
       have HD := hI (below_blk hb HD.out)
       have HO := hI (Only.of_below (S := [O]) hb)
       have r0 : wy.cell? ⟨O, 0, none⟩ = some (.bool false) := (cell_blk HC.out 0).trans rfl
       have r1 : wy.frozen? ⟨O, 0, none⟩ = false := frozen_blk HC.out 0 (by omega)
       clear hb
       cases mb with
       | false =>
        have C2 := hI (set_blk HC.out 0 (.bool true))
        have F2 := hI ((Below.heap_setCell wy ⟨O, 0, none⟩ (.bool true) P (by show P ≠ O; omega)).trans HF.out)
        have D2 := hI ((Below.heap_setCell wy ⟨O, 0, none⟩ (.bool true) dn (by show dn ≠ O; omega)).trans HD.out)
        have O2 := hI (HO.out.setCell (p := ⟨O, 0, none⟩) (by simp) (.bool true))
        go_wp2_with fail
        exact hK true _ C2.out F2.out D2.out O2.out (fun h => nomatch h)
       | true =>
        have C2 := hI (set_blk HC.out 0 (.bool false))
        have F2 := hI ((Below.heap_setCell wy ⟨O, 0, none⟩ (.bool false) P (by show P ≠ O; omega)).trans HF.out)
        have D2 := hI ((Below.heap_setCell wy ⟨O, 0, none⟩ (.bool false) dn (by show dn ≠ O; omega)).trans HD.out)
        have O2 := hI (HO.out.setCell (p := ⟨O, 0, none⟩) (by simp) (.bool false))
        go_wp2_with fail
        exact hK false _ C2.out F2.out D2.out O2.out (fun _ => ⟨(by first | rfl | trivial), HAB.out, by rw [HHE.out, HHV.out], fun _ => HMB.out (by first | rfl | trivial)⟩)
theorem segP5 (w : World)  (K : Act → World → Prop) (Q : Exit → Act → World → Prop) (hK : K ⟨#[u0, u1, u2, u3, u4, u5, u6, u7, u8, .bool true, u10, u11, u12, u13, u14, u15, u16, u17, u18, u19, u20, u21, u22, u23, u24, u25, u26, u27, u28, u29, u30, u31, u32, u33, u34, u35, u36, u37, u38, u39, u40, u41, u42, u43, u44, u45, u46, u47, u48, u49, u50, u51, u52, u53, u54, u55, u56, u57, u58, u59, u60, u61, u62, u63, u64, u65, u66, u67, u68, u69, u70, u71, u72, u73, u74, u75, u76, u77, u78, u79, u80, u81, u82, u83, u84, u85, u86, u87, u88, u89, u90, u91, u92, u93, u94, u95, u96, u97, u98, u99, u100, u101, u102, u103, u104, u105, u106, u107, u108, u109, u110, u111, u112, u113, u114, u115, u116, u117, u118, u119, u120, u121, u122, u123, u124, u125, u126, u127, u128, u129, u130, u131, u132, u133, u134, u135, u136, u137, u138, u139, u140, u141, u142, u143, u144, u145, u146, u147, u148, u149, u150, u151, u152, u153, u154, u155, u156, u157, u158], []⟩ w) :
  Code.wp Tryz.prog (fstC (sndC pC4)) (Exit.then K Q) ⟨#[u0, u1, u2, u3, u4, u5, u6, u7, u8, u9, u10, u11, u12, u13, u14, u15, u16, u17, u18, u19, u20, u21, u22, u23, u24, u25, u26, u27, u28, u29, u30, u31, u32, u33, u34, u35, u36, u37, u38, u39, u40, u41, u42, u43, u44, u45, u46, u47, u48, u49, u50, u51, u52, u53, u54, u55, u56, u57, u58, u59, u60, u61, u62, u63, u64, u65, u66, u67, u68, u69, u70, u71, u72, u73, u74, u75, u76, u77, u78, u79, u80, u81, u82, u83, u84, u85, u86, u87, u88, u89, u90, u91, u92, u93, u94, u95, u96, u97, u98, u99, u100, u101, u102, u103, u104, u105, u106, u107, u108, u109, u110, u111, u112, u113, u114, u115, u116, u117, u118, u119, u120, u121, u122, u123, u124, u125, u126, u127, u128, u129, u130, u131, u132, u133, u134, u135, u136, u137, u138, u139, u140, u141, u142, u143, u144, u145, u146, u147, u148, u149, u150, u151, u152, u153, u154, u155, u156, u157, u158], []⟩ w := by
 conv => arg 2; whnf
 go_wp2_with fail
 exact hK
theorem segPL (w : World) (O P dn : Nat) (fp : KPr) (tp PV : Option Addr) (pvc : Nat) (p : S75) (V : Option Addr) (cv : Nat) (hOP : O < P) (hOD : O < dn) (o1 : Bool) (w0 : World) (hb0 : Below w0.heap.size w0 w) (hO0 : w0.heap.size ≤ O) (hPV : kPa.C w0 PV fp.params.length fp.params) (hKp : KpOk fp) (hpv : PvOk w0 (some (p, V, cv))) (hpl : p.f1.length ≤ 100) (hpq : ∀ y ∈ p.f1, okQ y)  (hC : w.heap[O]? = some (.cells #[.bool o1] 85)) (hF : w.heap[P]? = some (.cells #[.string fp.name, .bool fp.absent, .bool fp.has, .bool fp.hasEnd, .int .i64 fp.st, .int .i64 fp.en, .pointer tp, .slice PV fp.params.length pvc] 147)) (hD : w.heap[dn]? = some (.cells #[.string p.f0, .slice V p.f1.length cv, .string p.f2] 75)) (K : Act → World → Prop) (Q : Exit → Act → World → Prop)
  (hK : ∀ (o2 : Bool) (b : Bool) (w' : World), w'.heap[O]? = some (.cells #[.bool o2] 85) → w'.heap[P]? = some (.cells #[.string fp.name, .bool fp.absent, .bool fp.has, .bool fp.hasEnd, .int .i64 fp.st, .int .i64 fp.en, .pointer tp, .slice PV fp.params.length pvc] 147) → w'.heap[dn]? = some (.cells #[.string p.f0, .slice V p.f1.length cv, .string p.f2] 75) → Only [O] w w' → (o2 = false → o1 = false ∧ b = parsV fp.params p) → ∀ {y11 y63 y64 y65 y66 y67 y68 y69 y70 y71 y72 y73 y74 y75 y76 y77 : Value}, K ⟨#[.pointer (some ⟨O, 0, none⟩), u1, u2, u3, .pointer (some ⟨P, 0, none⟩), u5, u6, .pointer (some ⟨dn, 0, none⟩), u8, .bool b, u10, y11, u12, u13, u14, u15, u16, u17, u18, u19, u20, u21, u22, u23, u24, u25, u26, u27, u28, u29, u30, u31, u32, u33, u34, u35, u36, u37, u38, u39, u40, u41, u42, u43, u44, u45, u46, u47, u48, u49, u50, u51, u52, u53, u54, u55, u56, u57, u58, u59, u60, u61, u62, y63, y64, y65, y66, y67, y68, y69, y70, y71, y72, y73, y74, y75, y76, y77, u78, u79, u80, u81, u82, u83, u84, u85, u86, u87, u88, u89, u90, u91, u92, u93, u94, u95, u96, u97, u98, u99, u100, u101, u102, u103, u104, u105, u106, u107, u108, u109, u110, u111, u112, u113, u114, u115, u116, u117, u118, u119, u120, u121, u122, u123, u124, u125, u126, u127, u128, u129, u130, u131, u132, u133, u134, u135, u136, u137, u138, u139, u140, u141, u142, u143, u144, u145, u146, u147, u148, u149, u150, u151, u152, u153, u154, u155, u156, u157, u158], []⟩ w') :
  Code.wp Tryz.prog pL (Exit.then K Q) ⟨#[.pointer (some ⟨O, 0, none⟩), u1, u2, u3, .pointer (some ⟨P, 0, none⟩), u5, u6, .pointer (some ⟨dn, 0, none⟩), u8, .bool true, u10, u11, u12, u13, u14, u15, u16, u17, u18, u19, u20, u21, u22, u23, u24, u25, u26, u27, u28, u29, u30, u31, u32, u33, u34, u35, u36, u37, u38, u39, u40, u41, u42, u43, u44, u45, u46, u47, u48, u49, u50, u51, u52, u53, u54, u55, u56, u57, u58, u59, u60, u61, u62, u63, u64, u65, u66, u67, u68, u69, u70, u71, u72, u73, u74, u75, u76, u77, u78, u79, u80, u81, u82, u83, u84, u85, u86, u87, u88, u89, u90, u91, u92, u93, u94, u95, u96, u97, u98, u99, u100, u101, u102, u103, u104, u105, u106, u107, u108, u109, u110, u111, u112, u113, u114, u115, u116, u117, u118, u119, u120, u121, u122, u123, u124, u125, u126, u127, u128, u129, u130, u131, u132, u133, u134, u135, u136, u137, u138, u139, u140, u141, u142, u143, u144, u145, u146, u147, u148, u149, u150, u151, u152, u153, u154, u155, u156, u157, u158], []⟩ w := by
 conv => arg 2; whnf
 have f7 : w.cell? ⟨P, 7, none⟩ = some (.slice PV fp.params.length pvc) := (cell_blk hF 7).trans rfl
 have hlp := hPV.2.1
 have hz0 := hb0.size
 have HC := hI hC
 have HF := hI hF
 have HD := hI hD
 clear hC hF hD
 go_wp2_with fail
 clear f7
 go_loopw [9, 66] (fun s9 i wr => ∃ (k : Nat) (b o' : Bool), k ≤ fp.params.length ∧ i = .int .i64 k ∧ s9 = .bool b ∧ Hid (wr.heap[O]? = some (.cells #[.bool o'] 85)) ∧ Hid (Only [O] w wr) ∧ Hid (o' = false → o1 = false ∧ b = parsV (fp.params.take k) p)) (fun _ i _ => fp.params.length - (RowKit.intOf i).toNat)
 case atStart => exact ⟨0, true, o1, Nat.zero_le _, rfl, rfl, HC, hI (Only.refl _ _), hI (fun h => ⟨h, rfl⟩)⟩
 case round =>
  have HF0 := HF
  have HD0 := HD
  clear HC HF HD
  obtain ⟨k, b, o', hk, rfl, rfl, HC, HO, HB⟩ := hrel
  have HF := hI (HO.out.blk HF0.out (by simp; omega))
  have HD := hI (HO.out.blk HD0.out (by simp; omega))
  obtain ⟨wo, rfl⟩ : ∃ wo : World, wo = wr := ⟨_, rfl⟩
  have hbo : Below w0.heap.size w0 wo := hb0.trans (HO.out.below hz0 (by intro y hy; simp at hy; omega))
  by_cases hlt : k < fp.params.length
  ·obtain ⟨q, hqe⟩ : ∃ q, fp.params[k]? = some q := ⟨_, List.getElem?_eq_getElem hlt⟩
   have hqm := List.mem_of_getElem? hqe
   obtain ⟨ad, qp, rfl, hqt, g0, g1, g2⟩ := at_kPa hPV k q hqe
   have g0 := pw_cell_below hbo g0
   have g1 := pw_cell_below hbo g1
   have g2 := pw_cell_below hbo g2
   have d0 : ∀ ob, (wo.alloc ob).cell? ⟨dn, 0, none⟩ = some (.string p.f0) := fun ob => (cell_blk (old_blk HD.out ob) 0).trans rfl
   have d1 : ∀ ob, (wo.alloc ob).cell? ⟨dn, 1, none⟩ = some (.slice V p.f1.length cv) := fun ob => (cell_blk (old_blk HD.out ob) 1).trans rfl
   have d2 : ∀ ob, (wo.alloc ob).cell? ⟨dn, 2, none⟩ = some (.string p.f2) := fun ob => (cell_blk (old_blk HD.out ob) 2).trans rfl
   have hqo := hKp.params q hqm
   have HQE := hI hqe
   clear hqe
   go_wp2_with fail
   refine (seenParam w0 _ O o' q qp p V cv (hbo.alloc hbo.size (.cells #[.string q.name, .bool q.absent, .pointer qp] 158)) hO0 (old_blk HC.out (.cells #[.string q.name, .bool q.absent, .pointer qp] 158)) hqt hqo.text hpv hpl hpq).mono ?_
   rintro _ w5 ⟨o2, v, rfl, hC5, hO5, hR5⟩
   have HC := hI hC5
   have HO := hI ((HO.out.alloc (.cells #[.string q.name, .bool q.absent, .pointer qp] 158)).trans hO5)
   have HB2 : Hid (o2 = false → o1 = false ∧ (v && b) = parsV (fp.params.take (k + 1)) p) := hI (fun h => by
    obtain ⟨h1, h2⟩ := hR5 h
    obtain ⟨h3, h4⟩ := HB.out h1
    refine ⟨h3, ?_⟩
    rw [parsV_take fp.params p k q HQE.out, ← h2, ← h4, Bool.and_comm])
   clear hC5 hO5 hR5 g0 g1 g2 d0 d1 d2
   cases v
   all_goals (
    go_wp2
    exact ⟨⟨k + 1, _, o2, by omega, by go_num, rfl, HC, HO, HB2⟩, by simp [RowKit.intOf]; omega⟩)
  ·obtain rfl : k = fp.params.length := by omega
   have hB := HB.out
   rw [List.take_length] at hB
   have HB := hI hB
   clear hB
   go_wp2_with fail
   exact hK o' b _ HC.out HF.out HD.out HO.out HB.out
theorem segP13 (w : World) (O P dn : Nat) (fp : KPr) (tp PV : Option Addr) (pvc : Nat) (p : S75) (V : Option Addr) (cv : Nat) (hOP : O < P) (hOD : O < dn) (o1 ok : Bool) (sec : Int)  (hC : w.heap[O]? = some (.cells #[.bool o1] 85)) (hF : w.heap[P]? = some (.cells #[.string fp.name, .bool fp.absent, .bool fp.has, .bool fp.hasEnd, .int .i64 fp.st, .int .i64 fp.en, .pointer tp, .slice PV fp.params.length pvc] 147)) (hD : w.heap[dn]? = some (.cells #[.string p.f0, .slice V p.f1.length cv, .string p.f2] 75)) (K : Act → World → Prop) (Q : Exit → Act → World → Prop)
  (hK : ∀ (o2 : Bool) (w' : World), w'.heap[O]? = some (.cells #[.bool o2] 85) → w'.heap[P]? = some (.cells #[.string fp.name, .bool fp.absent, .bool fp.has, .bool fp.hasEnd, .int .i64 fp.st, .int .i64 fp.en, .pointer tp, .slice PV fp.params.length pvc] 147) → w'.heap[dn]? = some (.cells #[.string p.f0, .slice V p.f1.length cv, .string p.f2] 75) → Only [O] w w' → (o2 = false → o1 = false ∧ ok = true ∧ sec ≠ fp.st ∧ sec ≠ fp.en) → ∀ {y86 y87 y88 y89 y90 y91 y92 y93 y94 y95 y96 y97 y98 y99 y100 y101 y102 y103 y104 y105 y106 y107 y108 : Value}, K ⟨#[.pointer (some ⟨O, 0, none⟩), u1, u2, u3, .pointer (some ⟨P, 0, none⟩), u5, u6, .pointer (some ⟨dn, 0, none⟩), u8, u9, u10, u11, .int .i64 sec, u13, .bool ok, u15, u16, u17, u18, u19, u20, u21, u22, u23, u24, u25, u26, u27, u28, u29, u30, u31, u32, u33, u34, u35, u36, u37, u38, u39, u40, u41, u42, u43, u44, u45, u46, u47, u48, u49, u50, u51, u52, u53, u54, u55, u56, u57, u58, u59, u60, u61, u62, u63, u64, u65, u66, u67, u68, u69, u70, u71, u72, u73, u74, u75, u76, u77, u78, u79, u80, u81, u82, u83, u84, u85, y86, y87, y88, y89, y90, y91, y92, y93, y94, y95, y96, y97, y98, y99, y100, y101, y102, y103, y104, y105, y106, y107, y108, u109, u110, u111, u112, u113, u114, u115, u116, u117, u118, u119, u120, u121, u122, u123, u124, u125, u126, u127, u128, u129, u130, u131, u132, u133, u134, u135, u136, u137, u138, u139, u140, u141, u142, u143, u144, u145, u146, u147, u148, u149, u150, u151, u152, u153, u154, u155, u156, u157, u158], []⟩ w') :
  Code.wp Tryz.prog pR13 (Exit.then K Q) ⟨#[.pointer (some ⟨O, 0, none⟩), u1, u2, u3, .pointer (some ⟨P, 0, none⟩), u5, u6, .pointer (some ⟨dn, 0, none⟩), u8, u9, u10, u11, .int .i64 sec, u13, .bool ok, u15, u16, u17, u18, u19, u20, u21, u22, u23, u24, u25, u26, u27, u28, u29, u30, u31, u32, u33, u34, u35, u36, u37, u38, u39, u40, u41, u42, u43, u44, u45, u46, u47, u48, u49, u50, u51, u52, u53, u54, u55, u56, u57, u58, u59, u60, u61, u62, u63, u64, u65, u66, u67, u68, u69, u70, u71, u72, u73, u74, u75, u76, u77, u78, u79, u80, u81, u82, u83, u84, u85, u86, u87, u88, u89, u90, u91, u92, u93, u94, u95, u96, u97, u98, u99, u100, u101, u102, u103, u104, u105, u106, u107, u108, u109, u110, u111, u112, u113, u114, u115, u116, u117, u118, u119, u120, u121, u122, u123, u124, u125, u126, u127, u128, u129, u130, u131, u132, u133, u134, u135, u136, u137, u138, u139, u140, u141, u142, u143, u144, u145, u146, u147, u148, u149, u150, u151, u152, u153, u154, u155, u156, u157, u158], []⟩ w := by
 conv => arg 2; whnf
 have f4 : w.cell? ⟨P, 4, none⟩ = some (.int .i64 fp.st) := (cell_blk hF 4).trans rfl
 have f5 : w.cell? ⟨P, 5, none⟩ = some (.int .i64 fp.en) := (cell_blk hF 5).trans rfl
 have r1 : w.frozen? ⟨O, 0, none⟩ = false := frozen_blk hC 0 (by omega)
 have r0 : w.cell? ⟨O, 0, none⟩ = some (.bool o1) := (cell_blk hC 0).trans rfl
 have HC := hI hC
 have HF := hI hF
 have HD := hI hD
 clear hC hF hD
 cases o1 with
 | true =>
  have C2 := hI (set_blk HC.out 0 (.bool true))
  have F2 := hI ((Below.heap_setCell w ⟨O, 0, none⟩ (.bool true) P (by show P ≠ O; omega)).trans HF.out)
  have D2 := hI ((Below.heap_setCell w ⟨O, 0, none⟩ (.bool true) dn (by show dn ≠ O; omega)).trans HD.out)
  have O2 := hI ((Only.refl [O] w).setCell (p := ⟨O, 0, none⟩) (by simp) (.bool true))
  go_wp2_with fail
  exact hK true _ C2.out F2.out D2.out O2.out (fun h => nomatch h)
 | false =>
  cases ok with
  | false =>
   have C2 := hI (set_blk HC.out 0 (.bool true))
   have F2 := hI ((Below.heap_setCell w ⟨O, 0, none⟩ (.bool true) P (by show P ≠ O; omega)).trans HF.out)
   have D2 := hI ((Below.heap_setCell w ⟨O, 0, none⟩ (.bool true) dn (by show dn ≠ O; omega)).trans HD.out)
   have O2 := hI ((Only.refl [O] w).setCell (p := ⟨O, 0, none⟩) (by simp) (.bool true))
   go_wp2_with fail
   exact hK true _ C2.out F2.out D2.out O2.out (fun h => nomatch h)
  | true =>
   by_cases h1 : sec = fp.st
   ·have h1b : (sec == fp.st) = true := by rw [beq_iff_eq]; exact h1
    clear h1
    have C2 := hI (set_blk HC.out 0 (.bool true))
    have F2 := hI ((Below.heap_setCell w ⟨O, 0, none⟩ (.bool true) P (by show P ≠ O; omega)).trans HF.out)
    have D2 := hI ((Below.heap_setCell w ⟨O, 0, none⟩ (.bool true) dn (by show dn ≠ O; omega)).trans HD.out)
    have O2 := hI ((Only.refl [O] w).setCell (p := ⟨O, 0, none⟩) (by simp) (.bool true))
    go_wp2_with fail
    exact hK true _ C2.out F2.out D2.out O2.out (fun h => nomatch h)
   ·have h1b : (sec == fp.st) = false := by rw [beq_eq_false_iff_ne]; exact h1
    have H1 := hI h1
    clear h1
    by_cases h2 : sec = fp.en
    ·have h2b : (sec == fp.en) = true := by rw [beq_iff_eq]; exact h2
     clear h2
     have C2 := hI (set_blk HC.out 0 (.bool true))
     have F2 := hI ((Below.heap_setCell w ⟨O, 0, none⟩ (.bool true) P (by show P ≠ O; omega)).trans HF.out)
     have D2 := hI ((Below.heap_setCell w ⟨O, 0, none⟩ (.bool true) dn (by show dn ≠ O; omega)).trans HD.out)
     have O2 := hI ((Only.refl [O] w).setCell (p := ⟨O, 0, none⟩) (by simp) (.bool true))
     go_wp2_with fail
     exact hK true _ C2.out F2.out D2.out O2.out (fun h => nomatch h)
    ·have h2b : (sec == fp.en) = false := by rw [beq_eq_false_iff_ne]; exact h2
     have H2 := hI h2
     clear h2
     have C2 := hI (set_blk HC.out 0 (.bool false))
     have F2 := hI ((Below.heap_setCell w ⟨O, 0, none⟩ (.bool false) P (by show P ≠ O; omega)).trans HF.out)
     have D2 := hI ((Below.heap_setCell w ⟨O, 0, none⟩ (.bool false) dn (by show dn ≠ O; omega)).trans HD.out)
     have O2 := hI ((Only.refl [O] w).setCell (p := ⟨O, 0, none⟩) (by simp) (.bool false))
     go_wp2_with fail
     exact hK false _ C2.out F2.out D2.out O2.out (fun _ => ⟨(by first | rfl | trivial), (by first | rfl | trivial), H1.out, H2.out⟩)
theorem segP14 (w : World) (O P dn : Nat) (fp : KPr) (tp PV : Option Addr) (pvc : Nat) (b v : Bool) (sec : Int) (hv : v = (b && (decide (fp.st < sec) && decide (sec < fp.en))))  (hF : w.heap[P]? = some (.cells #[.string fp.name, .bool fp.absent, .bool fp.has, .bool fp.hasEnd, .int .i64 fp.st, .int .i64 fp.en, .pointer tp, .slice PV fp.params.length pvc] 147)) (K : Act → World → Prop) (Q : Exit → Act → World → Prop)
  (hK : ∀ {y109 y110 y111 y112 y113 y114 y115 y116 y117 y118 y119 y120 y121 : Value}, K ⟨#[.pointer (some ⟨O, 0, none⟩), u1, u2, u3, .pointer (some ⟨P, 0, none⟩), u5, .bool v, .pointer (some ⟨dn, 0, none⟩), u8, .bool b, u10, u11, .int .i64 sec, u13, u14, u15, u16, u17, u18, u19, u20, u21, u22, u23, u24, u25, u26, u27, u28, u29, u30, u31, u32, u33, u34, u35, u36, u37, u38, u39, u40, u41, u42, u43, u44, u45, u46, u47, u48, u49, u50, u51, u52, u53, u54, u55, u56, u57, u58, u59, u60, u61, u62, u63, u64, u65, u66, u67, u68, u69, u70, u71, u72, u73, u74, u75, u76, u77, u78, u79, u80, u81, u82, u83, u84, u85, u86, u87, u88, u89, u90, u91, u92, u93, u94, u95, u96, u97, u98, u99, u100, u101, u102, u103, u104, u105, u106, u107, u108, y109, y110, y111, y112, y113, y114, y115, y116, y117, y118, y119, y120, y121, u122, u123, u124, u125, u126, u127, u128, u129, u130, u131, u132, u133, u134, u135, u136, u137, u138, u139, u140, u141, u142, u143, u144, u145, u146, u147, u148, u149, u150, u151, u152, u153, u154, u155, u156, u157, u158], []⟩ w) :
  Code.wp Tryz.prog pR14 (Exit.then K Q) ⟨#[.pointer (some ⟨O, 0, none⟩), u1, u2, u3, .pointer (some ⟨P, 0, none⟩), u5, u6, .pointer (some ⟨dn, 0, none⟩), u8, .bool b, u10, u11, .int .i64 sec, u13, u14, u15, u16, u17, u18, u19, u20, u21, u22, u23, u24, u25, u26, u27, u28, u29, u30, u31, u32, u33, u34, u35, u36, u37, u38, u39, u40, u41, u42, u43, u44, u45, u46, u47, u48, u49, u50, u51, u52, u53, u54, u55, u56, u57, u58, u59, u60, u61, u62, u63, u64, u65, u66, u67, u68, u69, u70, u71, u72, u73, u74, u75, u76, u77, u78, u79, u80, u81, u82, u83, u84, u85, u86, u87, u88, u89, u90, u91, u92, u93, u94, u95, u96, u97, u98, u99, u100, u101, u102, u103, u104, u105, u106, u107, u108, u109, u110, u111, u112, u113, u114, u115, u116, u117, u118, u119, u120, u121, u122, u123, u124, u125, u126, u127, u128, u129, u130, u131, u132, u133, u134, u135, u136, u137, u138, u139, u140, u141, u142, u143, u144, u145, u146, u147, u148, u149, u150, u151, u152, u153, u154, u155, u156, u157, u158], []⟩ w := by
 conv => arg 2; whnf
 have f4 : w.cell? ⟨P, 4, none⟩ = some (.int .i64 fp.st) := (cell_blk hF 4).trans rfl
 have f5 : w.cell? ⟨P, 5, none⟩ = some (.int .i64 fp.en) := (cell_blk hF 5).trans rfl
 clear hF
 cases b with
 | false =>
  obtain rfl : v = false := by rw [hv]; simp []
  clear hv
  go_wp2_with fail
  exact hK
 | true =>
  by_cases h1 : fp.st < sec
  ·by_cases h2 : sec < fp.en
   ·skip
    obtain rfl : v = true := by rw [hv]; simp [h1, h2]
    clear hv
    go_wp2_with fail
    exact hK
   ·skip
    obtain rfl : v = false := by rw [hv]; simp [h1, h2]
    clear hv
    go_wp2_with fail
    exact hK
  ·skip
   obtain rfl : v = false := by rw [hv]; simp [h1]
   clear hv
   go_wp2_with fail
   exact hK
theorem segP15 (w : World) (O P dn : Nat) (fp : KPr) (tp PV : Option Addr) (pvc : Nat) (p : S75) (V : Option Addr) (cv : Nat) (hOP : O < P) (hOD : O < dn) (o1 : Bool) (w0 : World) (hb0 : Below w0.heap.size w0 w) (hT : TxtAt w0 tp fp.text) (hKp : KpOk fp) (hp2s : p.f2.size ≤ 1000)  (hC : w.heap[O]? = some (.cells #[.bool o1] 85)) (hF : w.heap[P]? = some (.cells #[.string fp.name, .bool fp.absent, .bool fp.has, .bool fp.hasEnd, .int .i64 fp.st, .int .i64 fp.en, .pointer tp, .slice PV fp.params.length pvc] 147)) (hD : w.heap[dn]? = some (.cells #[.string p.f0, .slice V p.f1.length cv, .string p.f2] 75)) (K : Act → World → Prop) (R : Ending → World → Prop)
  (hK : ∀ (o2 : Bool) (w' : World), w'.heap[O]? = some (.cells #[.bool o2] 85) → w'.heap[P]? = some (.cells #[.string fp.name, .bool fp.absent, .bool fp.has, .bool fp.hasEnd, .int .i64 fp.st, .int .i64 fp.en, .pointer tp, .slice PV fp.params.length pvc] 147) → w'.heap[dn]? = some (.cells #[.string p.f0, .slice V p.f1.length cv, .string p.f2] 75) → Only [O] w w' → (o2 = false → o1 = false) → ∀ {y122 y123 y124 y125 y126 y127 y128 y129 y130 y131 y132 y133 y134 y135 y136 y137 y138 y139 y140 y141 y142 y143 y144 : Value}, K ⟨#[.pointer (some ⟨O, 0, none⟩), u1, u2, u3, .pointer (some ⟨P, 0, none⟩), u5, u6, .pointer (some ⟨dn, 0, none⟩), u8, u9, u10, u11, u12, u13, u14, u15, u16, u17, u18, u19, u20, u21, u22, u23, u24, u25, u26, u27, u28, u29, u30, u31, u32, u33, u34, u35, u36, u37, u38, u39, u40, u41, u42, u43, u44, u45, u46, u47, u48, u49, u50, u51, u52, u53, u54, u55, u56, u57, u58, u59, u60, u61, u62, u63, u64, u65, u66, u67, u68, u69, u70, u71, u72, u73, u74, u75, u76, u77, u78, u79, u80, u81, u82, u83, u84, u85, u86, u87, u88, u89, u90, u91, u92, u93, u94, u95, u96, u97, u98, u99, u100, u101, u102, u103, u104, u105, u106, u107, u108, u109, u110, u111, u112, u113, u114, u115, u116, u117, u118, u119, u120, u121, y122, y123, y124, y125, y126, y127, y128, y129, y130, y131, y132, y133, y134, y135, y136, y137, y138, y139, y140, y141, y142, y143, y144, u145, u146, u147, u148, u149, u150, u151, u152, u153, u154, u155, u156, u157, u158], []⟩ w') :
  Code.wp Tryz.prog pR15 (Exit.then K (bodyPost Tryz.prog Tryz.f69 R)) ⟨#[.pointer (some ⟨O, 0, none⟩), u1, u2, u3, .pointer (some ⟨P, 0, none⟩), u5, u6, .pointer (some ⟨dn, 0, none⟩), u8, u9, u10, u11, u12, u13, u14, u15, u16, u17, u18, u19, u20, u21, u22, u23, u24, u25, u26, u27, u28, u29, u30, u31, u32, u33, u34, u35, u36, u37, u38, u39, u40, u41, u42, u43, u44, u45, u46, u47, u48, u49, u50, u51, u52, u53, u54, u55, u56, u57, u58, u59, u60, u61, u62, u63, u64, u65, u66, u67, u68, u69, u70, u71, u72, u73, u74, u75, u76, u77, u78, u79, u80, u81, u82, u83, u84, u85, u86, u87, u88, u89, u90, u91, u92, u93, u94, u95, u96, u97, u98, u99, u100, u101, u102, u103, u104, u105, u106, u107, u108, u109, u110, u111, u112, u113, u114, u115, u116, u117, u118, u119, u120, u121, u122, u123, u124, u125, u126, u127, u128, u129, u130, u131, u132, u133, u134, u135, u136, u137, u138, u139, u140, u141, u142, u143, u144, u145, u146, u147, u148, u149, u150, u151, u152, u153, u154, u155, u156, u157, u158], []⟩ w := by
 conv => arg 2; whnf
 have HC := hI hC
 have HF := hI hF
 have HD := hI hD
 clear hC hF hD
 cases htx : fp.text with
 | none =>
  obtain rfl : tp = none := by rw [htx] at hT; exact hT
  cases o1 with
  | true =>
   refine start_ (n := 24) (S := fun W => W.cell? ⟨O, 0, none⟩ = some (.bool true) ∧ W.cell? ⟨P, 6, none⟩ = some (.pointer none)) (ds := [23]) (bM 24 0) (by kernel_rfl) rfl (by kernel_rfl) ⟨(cell_blk HC.out 0).trans rfl, (cell_blk HF.out 6).trans rfl⟩ (fun hHeld => ?_)
   have HC := hI (show w.drew.heap[O]? = some (.cells #[.bool true] 85) from HC.out)
   have HF := hI (show w.drew.heap[P]? = some (.cells #[.string fp.name, .bool fp.absent, .bool fp.has, .bool fp.hasEnd, .int .i64 fp.st, .int .i64 fp.en, .pointer none, .slice PV fp.params.length pvc] 147) from HF.out)
   have HD := hI (show w.drew.heap[dn]? = some (.cells #[.string p.f0, .slice V p.f1.length cv, .string p.f2] 75) from HD.out)
   have HO := hI (show Only [O] w w.drew from (Only.refl [O] w).drew)
   have hbj : Below w0.heap.size w0 w.drew := hb0.drew
   generalize w.drew = wj at HC HF HD HO hbj hHeld ⊢
   refine pU 0 24 1 (some 122) rfl rfl (by kernel_rfl) rfl (fun _ => by go_simp; with_reducible rfl) (by simp only [sW]; rfl) ?_
   refine pU 1 24 3 (some 123) rfl rfl (by kernel_rfl) rfl (fun _ => by go_simp; with_reducible rfl) (by simp only [sW]; rfl) ?_
   refine pU 2 24 7 (some 124) rfl rfl (by kernel_rfl) rfl (fun _ => by go_simp; with_reducible rfl) (by simp only [sW]; rfl) ?_
   refine pU 3 24 15 (some 125) rfl rfl (by kernel_rfl) rfl (fun _ => by go_simp; with_reducible rfl) (by simp only [sW]; rfl) ?_
   refine tA 4 24 31 (some 126) rfl rfl (by kernel_rfl) rfl (fun _ ⟨s0, s1⟩ => by go_simp; with_reducible rfl) hHeld (by simp only [sW]; rfl) ?_
   refine pU 5 24 63 (some 127) rfl rfl (by kernel_rfl) rfl (fun _ => by go_simp; with_reducible rfl) (by simp only [sW]; rfl) ?_
   refine pO 6 24 127 (some 128) rfl rfl (by kernel_rfl) rfl (by simp only [sW]; rfl) ?_
   refine pO 7 24 255 (some 129) rfl rfl (by kernel_rfl) rfl (by simp only [sW]; rfl) ?_
   refine pO 8 24 511 (some 130) rfl rfl (by kernel_rfl) rfl (by simp only [sW]; rfl) ?_
   refine pO 9 24 1023 (some 131) rfl rfl (by kernel_rfl) rfl (by simp only [sW]; rfl) ?_
   refine pO 10 24 2047 (some 132) rfl rfl (by kernel_rfl) rfl (by simp only [sW]; rfl) ?_
   refine pO 11 24 4095 (some 133) rfl rfl (by kernel_rfl) rfl (by simp only [sW]; rfl) ?_
   refine pO 12 24 8191 (some 134) rfl rfl (by kernel_rfl) rfl (by simp only [sW]; rfl) ?_
   refine pO 13 24 16383 (some 135) rfl rfl (by kernel_rfl) rfl (by simp only [sW]; rfl) ?_
   refine pO 14 24 32767 (some 136) rfl rfl (by kernel_rfl) rfl (by simp only [sW]; rfl) ?_
   refine pO 15 24 65535 (some 137) rfl rfl (by kernel_rfl) rfl (by simp only [sW]; rfl) ?_
   refine pO 16 24 131071 (some 138) rfl rfl (by kernel_rfl) rfl (by simp only [sW]; rfl) ?_
   refine pO 17 24 262143 (some 139) rfl rfl (by kernel_rfl) rfl (by simp only [sW]; rfl) ?_
   refine pO 18 24 524287 (some 140) rfl rfl (by kernel_rfl) rfl (by simp only [sW]; rfl) ?_
   refine pO 19 24 1048575 (some 141) rfl rfl (by kernel_rfl) rfl (by simp only [sW]; rfl) ?_
   refine pU 20 24 2097151 (some 142) rfl rfl (by kernel_rfl) rfl (fun _ => by go_simp; with_reducible rfl) (by simp only [sW]; rfl) ?_
   refine pU 21 24 4194303 (some 143) rfl rfl (by kernel_rfl) rfl (fun _ => by go_simp; with_reducible rfl) (by simp only [sW]; rfl) ?_
   refine pU 22 24 8388607 (some 144) rfl rfl (by kernel_rfl) rfl (fun _ => by go_simp; with_reducible rfl) (by simp only [sW]; rfl) ?_
   refine lA 23 24 16777215 none rfl rfl (by kernel_rfl) (by decide) (fun K hK => ?_)
   have cO := (cell_blk HC.out 0).trans rfl
   have fO := frozen_blk HC.out 0 (by omega)
   refine skip_ (w1 := ?_) (by rfl) rfl ?_ ?_; rotate_left; (go_simp; first | rfl | done)
   refine hK.out _ _ ?_
   clear hK K
   refine done_ (by kernel_rfl) ?_
   have C2 := hI (set_blk HC.out 0 (.bool true))
   have F2 := hI ((Below.heap_setCell wj ⟨O, 0, none⟩ (.bool true) P (by show P ≠ O; omega)).trans HF.out)
   have D2 := hI ((Below.heap_setCell wj ⟨O, 0, none⟩ (.bool true) dn (by show dn ≠ O; omega)).trans HD.out)
   have O2 := hI (HO.out.setCell (p := ⟨O, 0, none⟩) (by simp) (.bool true))
   go_wp2_with fail
   exact hK true _ C2.out F2.out D2.out O2.out (fun h => nomatch h)
  | false =>
   refine start_ (n := 24) (S := fun W => W.cell? ⟨O, 0, none⟩ = some (.bool false) ∧ W.cell? ⟨P, 6, none⟩ = some (.pointer none)) (ds := [23]) (bM 24 0) (by kernel_rfl) rfl (by kernel_rfl) ⟨(cell_blk HC.out 0).trans rfl, (cell_blk HF.out 6).trans rfl⟩ (fun hHeld => ?_)
   have HC := hI (show w.drew.heap[O]? = some (.cells #[.bool false] 85) from HC.out)
   have HF := hI (show w.drew.heap[P]? = some (.cells #[.string fp.name, .bool fp.absent, .bool fp.has, .bool fp.hasEnd, .int .i64 fp.st, .int .i64 fp.en, .pointer none, .slice PV fp.params.length pvc] 147) from HF.out)
   have HD := hI (show w.drew.heap[dn]? = some (.cells #[.string p.f0, .slice V p.f1.length cv, .string p.f2] 75) from HD.out)
   have HO := hI (show Only [O] w w.drew from (Only.refl [O] w).drew)
   have hbj : Below w0.heap.size w0 w.drew := hb0.drew
   generalize w.drew = wj at HC HF HD HO hbj hHeld ⊢
   refine pU 0 24 1 (some 122) rfl rfl (by kernel_rfl) rfl (fun _ => by go_simp; with_reducible rfl) (by simp only [sW]; rfl) ?_
   refine pU 1 24 3 (some 123) rfl rfl (by kernel_rfl) rfl (fun _ => by go_simp; with_reducible rfl) (by simp only [sW]; rfl) ?_
   refine pU 2 24 7 (some 124) rfl rfl (by kernel_rfl) rfl (fun _ => by go_simp; with_reducible rfl) (by simp only [sW]; rfl) ?_
   refine pU 3 24 15 (some 125) rfl rfl (by kernel_rfl) rfl (fun _ => by go_simp; with_reducible rfl) (by simp only [sW]; rfl) ?_
   refine tA 4 24 31 (some 126) rfl rfl (by kernel_rfl) rfl (fun _ ⟨s0, s1⟩ => by go_simp; with_reducible rfl) hHeld (by simp only [sW]; rfl) ?_
   refine pU 5 24 63 (some 127) rfl rfl (by kernel_rfl) rfl (fun _ => by go_simp; with_reducible rfl) (by simp only [sW]; rfl) ?_
   refine pU 6 24 127 (some 128) rfl rfl (by kernel_rfl) rfl (fun _ => by go_simp; with_reducible rfl) (by simp only [sW]; rfl) ?_
   refine tA 7 24 255 (some 129) rfl rfl (by kernel_rfl) rfl (fun _ ⟨s0, s1⟩ => by go_simp; with_reducible rfl) hHeld (by simp only [sW]; rfl) ?_
   refine pU 8 24 511 (some 130) rfl rfl (by kernel_rfl) rfl (fun _ => by go_simp; with_reducible rfl) (by simp only [sW]; rfl) ?_
   refine pU 9 24 1023 (some 131) rfl rfl (by kernel_rfl) rfl (fun _ => by go_simp; with_reducible rfl) (by simp only [sW]; rfl) ?_
   refine pO 10 24 2047 (some 132) rfl rfl (by kernel_rfl) rfl (by simp only [sW]; rfl) ?_
   refine pO 11 24 4095 (some 133) rfl rfl (by kernel_rfl) rfl (by simp only [sW]; rfl) ?_
   refine pO 12 24 8191 (some 134) rfl rfl (by kernel_rfl) rfl (by simp only [sW]; rfl) ?_
   refine pO 13 24 16383 (some 135) rfl rfl (by kernel_rfl) rfl (by simp only [sW]; rfl) ?_
   refine pO 14 24 32767 (some 136) rfl rfl (by kernel_rfl) rfl (by simp only [sW]; rfl) ?_
   refine pO 15 24 65535 (some 137) rfl rfl (by kernel_rfl) rfl (by simp only [sW]; rfl) ?_
   refine pO 16 24 131071 (some 138) rfl rfl (by kernel_rfl) rfl (by simp only [sW]; rfl) ?_
   refine pO 17 24 262143 (some 139) rfl rfl (by kernel_rfl) rfl (by simp only [sW]; rfl) ?_
   refine pO 18 24 524287 (some 140) rfl rfl (by kernel_rfl) rfl (by simp only [sW]; rfl) ?_
   refine pU 19 24 1048575 (some 141) rfl rfl (by kernel_rfl) rfl (fun _ => by go_simp; with_reducible rfl) (by simp only [sW]; rfl) ?_
   refine pU 20 24 2097151 (some 142) rfl rfl (by kernel_rfl) rfl (fun _ => by go_simp; with_reducible rfl) (by simp only [sW]; rfl) ?_
   refine pU 21 24 4194303 (some 143) rfl rfl (by kernel_rfl) rfl (fun _ => by go_simp; with_reducible rfl) (by simp only [sW]; rfl) ?_
   refine pU 22 24 8388607 (some 144) rfl rfl (by kernel_rfl) rfl (fun _ => by go_simp; with_reducible rfl) (by simp only [sW]; rfl) ?_
   refine lA 23 24 16777215 none rfl rfl (by kernel_rfl) (by decide) (fun K hK => ?_)
   have cO := (cell_blk HC.out 0).trans rfl
   have fO := frozen_blk HC.out 0 (by omega)
   refine skip_ (w1 := ?_) (by rfl) rfl ?_ ?_; rotate_left; (go_simp; first | rfl | done)
   refine hK.out _ _ ?_
   clear hK K
   refine done_ (by kernel_rfl) ?_
   have C2 := hI (set_blk HC.out 0 (.bool false))
   have F2 := hI ((Below.heap_setCell wj ⟨O, 0, none⟩ (.bool false) P (by show P ≠ O; omega)).trans HF.out)
   have D2 := hI ((Below.heap_setCell wj ⟨O, 0, none⟩ (.bool false) dn (by show dn ≠ O; omega)).trans HD.out)
   have O2 := hI (HO.out.setCell (p := ⟨O, 0, none⟩) (by simp) (.bool false))
   go_wp2_with fail
   exact hK false _ C2.out F2.out D2.out O2.out (fun _ => (by first | rfl | trivial))
 | some t =>
  obtain ⟨tb, tof, rfl, ht1, ht2⟩ : ∃ b o : Nat, tp = some ⟨b, o, none⟩ ∧ w0.cell? ⟨b, o, none⟩ = some (.string t.1) ∧ w0.cell? ⟨b, o + 1, none⟩ = some (.bool t.2) := by rw [htx] at hT; exact hT
  have htl : t.1.size ≤ 200 := hKp.text t htx
  clear htx
  cases o1 with
  | true =>
   refine start_ (n := 24) (S := fun W => W.cell? ⟨O, 0, none⟩ = some (.bool true) ∧ W.cell? ⟨P, 6, none⟩ = some (.pointer (some ⟨tb, tof, none⟩))) (ds := [23]) (bM 24 0) (by kernel_rfl) rfl (by kernel_rfl) ⟨(cell_blk HC.out 0).trans rfl, (cell_blk HF.out 6).trans rfl⟩ (fun hHeld => ?_)
   have HC := hI (show w.drew.heap[O]? = some (.cells #[.bool true] 85) from HC.out)
   have HF := hI (show w.drew.heap[P]? = some (.cells #[.string fp.name, .bool fp.absent, .bool fp.has, .bool fp.hasEnd, .int .i64 fp.st, .int .i64 fp.en, .pointer (some ⟨tb, tof, none⟩), .slice PV fp.params.length pvc] 147) from HF.out)
   have HD := hI (show w.drew.heap[dn]? = some (.cells #[.string p.f0, .slice V p.f1.length cv, .string p.f2] 75) from HD.out)
   have HO := hI (show Only [O] w w.drew from (Only.refl [O] w).drew)
   have hbj : Below w0.heap.size w0 w.drew := hb0.drew
   generalize w.drew = wj at HC HF HD HO hbj hHeld ⊢
   refine pU 0 24 1 (some 122) rfl rfl (by kernel_rfl) rfl (fun _ => by go_simp; with_reducible rfl) (by simp only [sW]; rfl) ?_
   refine pU 1 24 3 (some 123) rfl rfl (by kernel_rfl) rfl (fun _ => by go_simp; with_reducible rfl) (by simp only [sW]; rfl) ?_
   refine pU 2 24 7 (some 124) rfl rfl (by kernel_rfl) rfl (fun _ => by go_simp; with_reducible rfl) (by simp only [sW]; rfl) ?_
   refine pU 3 24 15 (some 125) rfl rfl (by kernel_rfl) rfl (fun _ => by go_simp; with_reducible rfl) (by simp only [sW]; rfl) ?_
   refine tA 4 24 31 (some 126) rfl rfl (by kernel_rfl) rfl (fun _ ⟨s0, s1⟩ => by go_simp; with_reducible rfl) hHeld (by simp only [sW]; rfl) ?_
   refine pU 5 24 63 (some 127) rfl rfl (by kernel_rfl) rfl (fun _ => by go_simp; with_reducible rfl) (by simp only [sW]; rfl) ?_
   refine pO 6 24 127 (some 128) rfl rfl (by kernel_rfl) rfl (by simp only [sW]; rfl) ?_
   refine pO 7 24 255 (some 129) rfl rfl (by kernel_rfl) rfl (by simp only [sW]; rfl) ?_
   refine pO 8 24 511 (some 130) rfl rfl (by kernel_rfl) rfl (by simp only [sW]; rfl) ?_
   refine pO 9 24 1023 (some 131) rfl rfl (by kernel_rfl) rfl (by simp only [sW]; rfl) ?_
   refine pO 10 24 2047 (some 132) rfl rfl (by kernel_rfl) rfl (by simp only [sW]; rfl) ?_
   refine pO 11 24 4095 (some 133) rfl rfl (by kernel_rfl) rfl (by simp only [sW]; rfl) ?_
   refine pO 12 24 8191 (some 134) rfl rfl (by kernel_rfl) rfl (by simp only [sW]; rfl) ?_
   refine pO 13 24 16383 (some 135) rfl rfl (by kernel_rfl) rfl (by simp only [sW]; rfl) ?_
   refine pO 14 24 32767 (some 136) rfl rfl (by kernel_rfl) rfl (by simp only [sW]; rfl) ?_
   refine pO 15 24 65535 (some 137) rfl rfl (by kernel_rfl) rfl (by simp only [sW]; rfl) ?_
   refine pO 16 24 131071 (some 138) rfl rfl (by kernel_rfl) rfl (by simp only [sW]; rfl) ?_
   refine pO 17 24 262143 (some 139) rfl rfl (by kernel_rfl) rfl (by simp only [sW]; rfl) ?_
   refine pO 18 24 524287 (some 140) rfl rfl (by kernel_rfl) rfl (by simp only [sW]; rfl) ?_
   refine pO 19 24 1048575 (some 141) rfl rfl (by kernel_rfl) rfl (by simp only [sW]; rfl) ?_
   refine pU 20 24 2097151 (some 142) rfl rfl (by kernel_rfl) rfl (fun _ => by go_simp; with_reducible rfl) (by simp only [sW]; rfl) ?_
   refine pU 21 24 4194303 (some 143) rfl rfl (by kernel_rfl) rfl (fun _ => by go_simp; with_reducible rfl) (by simp only [sW]; rfl) ?_
   refine pU 22 24 8388607 (some 144) rfl rfl (by kernel_rfl) rfl (fun _ => by go_simp; with_reducible rfl) (by simp only [sW]; rfl) ?_
   refine lA 23 24 16777215 none rfl rfl (by kernel_rfl) (by decide) (fun K hK => ?_)
   have cO := (cell_blk HC.out 0).trans rfl
   have fO := frozen_blk HC.out 0 (by omega)
   refine skip_ (w1 := ?_) (by rfl) rfl ?_ ?_; rotate_left; (go_simp; first | rfl | done)
   refine hK.out _ _ ?_
   clear hK K
   refine done_ (by kernel_rfl) ?_
   have C2 := hI (set_blk HC.out 0 (.bool true))
   have F2 := hI ((Below.heap_setCell wj ⟨O, 0, none⟩ (.bool true) P (by show P ≠ O; omega)).trans HF.out)
   have D2 := hI ((Below.heap_setCell wj ⟨O, 0, none⟩ (.bool true) dn (by show dn ≠ O; omega)).trans HD.out)
   have O2 := hI (HO.out.setCell (p := ⟨O, 0, none⟩) (by simp) (.bool true))
   go_wp2_with fail
   exact hK true _ C2.out F2.out D2.out O2.out (fun h => nomatch h)
  | false =>
   obtain ⟨bb, hbb⟩ : ∃ bb, holdB (p.f2 ++ t.1) { data := #[92] } = bb := ⟨_, rfl⟩
   have hcat : ¬ 9223372036854775807 < p.f2.size + t.1.size := by omega
   have hszz : (p.f2 ++ t.1).size ≤ 140737488351232 := by rw [ByteArray.size_append]; omega
   have hbc : ∀ w, Calls Tryz.prog 108 #[.string (p.f2 ++ t.1)] w fun e w' => e = .returned (.bool bb) ∧ Below w.heap.size w w' := fun w => by rw [← hbb]; exact backslash (p.f2 ++ t.1) w hszz
   clear hbb
   cases bb
   ·skip
    refine start_ (n := 24) (S := fun W => W.cell? ⟨O, 0, none⟩ = some (.bool false) ∧ W.cell? ⟨P, 6, none⟩ = some (.pointer (some ⟨tb, tof, none⟩)) ∧ W.cell? ⟨dn, 2, none⟩ = some (.string p.f2) ∧ W.cell? ⟨tb, tof, none⟩ = some (.string t.1)) (ds := [23]) (bM 24 0) (by kernel_rfl) rfl (by kernel_rfl) ⟨(cell_blk HC.out 0).trans rfl, (cell_blk HF.out 6).trans rfl, (cell_blk HD.out 2).trans rfl, pw_cell_below hb0 ht1⟩ (fun hHeld => ?_)
    have HC := hI (show w.drew.heap[O]? = some (.cells #[.bool false] 85) from HC.out)
    have HF := hI (show w.drew.heap[P]? = some (.cells #[.string fp.name, .bool fp.absent, .bool fp.has, .bool fp.hasEnd, .int .i64 fp.st, .int .i64 fp.en, .pointer (some ⟨tb, tof, none⟩), .slice PV fp.params.length pvc] 147) from HF.out)
    have HD := hI (show w.drew.heap[dn]? = some (.cells #[.string p.f0, .slice V p.f1.length cv, .string p.f2] 75) from HD.out)
    have HO := hI (show Only [O] w w.drew from (Only.refl [O] w).drew)
    have hbj : Below w0.heap.size w0 w.drew := hb0.drew
    generalize w.drew = wj at HC HF HD HO hbj hHeld ⊢
    refine pU 0 24 1 (some 122) rfl rfl (by kernel_rfl) rfl (fun _ => by go_simp; with_reducible rfl) (by simp only [sW]; rfl) ?_
    refine pU 1 24 3 (some 123) rfl rfl (by kernel_rfl) rfl (fun _ => by go_simp; with_reducible rfl) (by simp only [sW]; rfl) ?_
    refine pU 2 24 7 (some 124) rfl rfl (by kernel_rfl) rfl (fun _ => by go_simp; with_reducible rfl) (by simp only [sW]; rfl) ?_
    refine pU 3 24 15 (some 125) rfl rfl (by kernel_rfl) rfl (fun _ => by go_simp; with_reducible rfl) (by simp only [sW]; rfl) ?_
    refine tA 4 24 31 (some 126) rfl rfl (by kernel_rfl) rfl (fun _ ⟨s0, s1, s2, s3⟩ => by go_simp; with_reducible rfl) hHeld (by simp only [sW]; rfl) ?_
    refine pU 5 24 63 (some 127) rfl rfl (by kernel_rfl) rfl (fun _ => by go_simp; with_reducible rfl) (by simp only [sW]; rfl) ?_
    refine pU 6 24 127 (some 128) rfl rfl (by kernel_rfl) rfl (fun _ => by go_simp; with_reducible rfl) (by simp only [sW]; rfl) ?_
    refine tA 7 24 255 (some 129) rfl rfl (by kernel_rfl) rfl (fun _ ⟨s0, s1, s2, s3⟩ => by go_simp; with_reducible rfl) hHeld (by simp only [sW]; rfl) ?_
    refine pU 8 24 511 (some 130) rfl rfl (by kernel_rfl) rfl (fun _ => by go_simp; with_reducible rfl) (by simp only [sW]; rfl) ?_
    refine pU 9 24 1023 (some 131) rfl rfl (by kernel_rfl) rfl (fun _ => by go_simp; with_reducible rfl) (by simp only [sW]; rfl) ?_
    refine pU 10 24 2047 (some 132) rfl rfl (by kernel_rfl) rfl (fun _ => by go_simp; with_reducible rfl) (by simp only [sW]; rfl) ?_
    refine tA 11 24 4095 (some 133) rfl rfl (by kernel_rfl) rfl (fun _ ⟨s0, s1, s2, s3⟩ => by go_simp; with_reducible rfl) hHeld (by simp only [sW]; rfl) ?_
    refine pU 12 24 8191 (some 134) rfl rfl (by kernel_rfl) rfl (fun _ => by go_simp; with_reducible rfl) (by simp only [sW]; rfl) ?_
    refine tA 13 24 16383 (some 135) rfl rfl (by kernel_rfl) rfl (fun _ ⟨s0, s1, s2, s3⟩ => by go_simp; with_reducible rfl) hHeld (by simp only [sW]; rfl) ?_
    refine pU 14 24 32767 (some 136) rfl rfl (by kernel_rfl) rfl (fun _ => by go_simp; with_reducible rfl) (by simp only [sW]; rfl) ?_
    refine pU 15 24 65535 (some 137) rfl rfl (by kernel_rfl) rfl (fun _ => by go_simp; with_reducible rfl) (by simp only [sW]; rfl) ?_
    refine tA 16 24 131071 (some 138) rfl rfl (by kernel_rfl) rfl (fun _ ⟨s0, s1, s2, s3⟩ => by go_simp; with_reducible rfl) hHeld (by simp only [sW]; rfl) ?_
    refine pU 17 24 262143 (some 139) rfl rfl (by kernel_rfl) rfl (fun _ => by go_simp; with_reducible rfl) (by simp only [sW]; rfl) ?_
    refine oN 18 24 524287 (some 140) rfl rfl (by kernel_rfl) (by decide) (fun K hK => ?_)
    refine goes_ Tryz.func108 (by kernel_rfl) rfl #[.string (p.f2 ++ t.1)] (by rfl) rfl rfl (by (try simp only [List.map_toArray, List.map_cons, List.map_nil]); first | done | rfl | (simp only [List.length_drop, List.length_take]; rfl)) ?_; refine (hbc _).mono ?_
    rintro _ wj ⟨rfl, hb⟩
    refine ⟨_, rfl, ?_⟩
    have HC := hI (below_blk hb HC.out)
    have HF := hI (below_blk hb HF.out)
    have HD := hI (below_blk hb HD.out)
    have HO := hI (HO.out.trans (Only.of_below hb))
    have hbj := hbj.trans (hb.mono hbj.size)
    clear hb
    refine hK.out _ _ ⟨(cell_blk HC.out 0).trans rfl, (cell_blk HF.out 6).trans rfl, (cell_blk HD.out 2).trans rfl, pw_cell_below hbj ht1⟩ (fun hHeld => ?_)
    clear hK K
    refine norm_ (by show Act.put _ (some 140) _ = _; simp only [sW]; rfl) ?_
    refine pU 19 24 1048575 (some 141) rfl rfl (by kernel_rfl) rfl (fun _ => by go_simp; with_reducible rfl) (by simp only [sW]; rfl) ?_
    refine pU 20 24 2097151 (some 142) rfl rfl (by kernel_rfl) rfl (fun _ => by go_simp; with_reducible rfl) (by simp only [sW]; rfl) ?_
    refine pU 21 24 4194303 (some 143) rfl rfl (by kernel_rfl) rfl (fun _ => by go_simp; with_reducible rfl) (by simp only [sW]; rfl) ?_
    refine pU 22 24 8388607 (some 144) rfl rfl (by kernel_rfl) rfl (fun _ => by go_simp; with_reducible rfl) (by simp only [sW]; rfl) ?_
    refine lA 23 24 16777215 none rfl rfl (by kernel_rfl) (by decide) (fun K hK => ?_)
    have cO := (cell_blk HC.out 0).trans rfl
    have fO := frozen_blk HC.out 0 (by omega)
    refine skip_ (w1 := ?_) (by rfl) rfl ?_ ?_; rotate_left; (go_simp; first | rfl | done)
    refine hK.out _ _ ?_
    clear hK K
    refine done_ (by kernel_rfl) ?_
    have C2 := hI (set_blk HC.out 0 (.bool false))
    have F2 := hI ((Below.heap_setCell wj ⟨O, 0, none⟩ (.bool false) P (by show P ≠ O; omega)).trans HF.out)
    have D2 := hI ((Below.heap_setCell wj ⟨O, 0, none⟩ (.bool false) dn (by show dn ≠ O; omega)).trans HD.out)
    have O2 := hI (HO.out.setCell (p := ⟨O, 0, none⟩) (by simp) (.bool false))
    go_wp2_with fail
    exact hK false _ C2.out F2.out D2.out O2.out (fun _ => (by first | rfl | trivial))
   ·skip
    refine start_ (n := 24) (S := fun W => W.cell? ⟨O, 0, none⟩ = some (.bool false) ∧ W.cell? ⟨P, 6, none⟩ = some (.pointer (some ⟨tb, tof, none⟩)) ∧ W.cell? ⟨dn, 2, none⟩ = some (.string p.f2) ∧ W.cell? ⟨tb, tof, none⟩ = some (.string t.1)) (ds := [23]) (bM 24 0) (by kernel_rfl) rfl (by kernel_rfl) ⟨(cell_blk HC.out 0).trans rfl, (cell_blk HF.out 6).trans rfl, (cell_blk HD.out 2).trans rfl, pw_cell_below hb0 ht1⟩ (fun hHeld => ?_)
    have HC := hI (show w.drew.heap[O]? = some (.cells #[.bool false] 85) from HC.out)
    have HF := hI (show w.drew.heap[P]? = some (.cells #[.string fp.name, .bool fp.absent, .bool fp.has, .bool fp.hasEnd, .int .i64 fp.st, .int .i64 fp.en, .pointer (some ⟨tb, tof, none⟩), .slice PV fp.params.length pvc] 147) from HF.out)
    have HD := hI (show w.drew.heap[dn]? = some (.cells #[.string p.f0, .slice V p.f1.length cv, .string p.f2] 75) from HD.out)
    have HO := hI (show Only [O] w w.drew from (Only.refl [O] w).drew)
    have hbj : Below w0.heap.size w0 w.drew := hb0.drew
    generalize w.drew = wj at HC HF HD HO hbj hHeld ⊢
    refine pU 0 24 1 (some 122) rfl rfl (by kernel_rfl) rfl (fun _ => by go_simp; with_reducible rfl) (by simp only [sW]; rfl) ?_
    refine pU 1 24 3 (some 123) rfl rfl (by kernel_rfl) rfl (fun _ => by go_simp; with_reducible rfl) (by simp only [sW]; rfl) ?_
    refine pU 2 24 7 (some 124) rfl rfl (by kernel_rfl) rfl (fun _ => by go_simp; with_reducible rfl) (by simp only [sW]; rfl) ?_
    refine pU 3 24 15 (some 125) rfl rfl (by kernel_rfl) rfl (fun _ => by go_simp; with_reducible rfl) (by simp only [sW]; rfl) ?_
    refine tA 4 24 31 (some 126) rfl rfl (by kernel_rfl) rfl (fun _ ⟨s0, s1, s2, s3⟩ => by go_simp; with_reducible rfl) hHeld (by simp only [sW]; rfl) ?_
    refine pU 5 24 63 (some 127) rfl rfl (by kernel_rfl) rfl (fun _ => by go_simp; with_reducible rfl) (by simp only [sW]; rfl) ?_
    refine pU 6 24 127 (some 128) rfl rfl (by kernel_rfl) rfl (fun _ => by go_simp; with_reducible rfl) (by simp only [sW]; rfl) ?_
    refine tA 7 24 255 (some 129) rfl rfl (by kernel_rfl) rfl (fun _ ⟨s0, s1, s2, s3⟩ => by go_simp; with_reducible rfl) hHeld (by simp only [sW]; rfl) ?_
    refine pU 8 24 511 (some 130) rfl rfl (by kernel_rfl) rfl (fun _ => by go_simp; with_reducible rfl) (by simp only [sW]; rfl) ?_
    refine pU 9 24 1023 (some 131) rfl rfl (by kernel_rfl) rfl (fun _ => by go_simp; with_reducible rfl) (by simp only [sW]; rfl) ?_
    refine pU 10 24 2047 (some 132) rfl rfl (by kernel_rfl) rfl (fun _ => by go_simp; with_reducible rfl) (by simp only [sW]; rfl) ?_
    refine tA 11 24 4095 (some 133) rfl rfl (by kernel_rfl) rfl (fun _ ⟨s0, s1, s2, s3⟩ => by go_simp; with_reducible rfl) hHeld (by simp only [sW]; rfl) ?_
    refine pU 12 24 8191 (some 134) rfl rfl (by kernel_rfl) rfl (fun _ => by go_simp; with_reducible rfl) (by simp only [sW]; rfl) ?_
    refine tA 13 24 16383 (some 135) rfl rfl (by kernel_rfl) rfl (fun _ ⟨s0, s1, s2, s3⟩ => by go_simp; with_reducible rfl) hHeld (by simp only [sW]; rfl) ?_
    refine pU 14 24 32767 (some 136) rfl rfl (by kernel_rfl) rfl (fun _ => by go_simp; with_reducible rfl) (by simp only [sW]; rfl) ?_
    refine pU 15 24 65535 (some 137) rfl rfl (by kernel_rfl) rfl (fun _ => by go_simp; with_reducible rfl) (by simp only [sW]; rfl) ?_
    refine tA 16 24 131071 (some 138) rfl rfl (by kernel_rfl) rfl (fun _ ⟨s0, s1, s2, s3⟩ => by go_simp; with_reducible rfl) hHeld (by simp only [sW]; rfl) ?_
    refine pU 17 24 262143 (some 139) rfl rfl (by kernel_rfl) rfl (fun _ => by go_simp; with_reducible rfl) (by simp only [sW]; rfl) ?_
    refine oN 18 24 524287 (some 140) rfl rfl (by kernel_rfl) (by decide) (fun K hK => ?_)
    refine goes_ Tryz.func108 (by kernel_rfl) rfl #[.string (p.f2 ++ t.1)] (by rfl) rfl rfl (by (try simp only [List.map_toArray, List.map_cons, List.map_nil]); first | done | rfl | (simp only [List.length_drop, List.length_take]; rfl)) ?_; refine (hbc _).mono ?_
    rintro _ wj ⟨rfl, hb⟩
    refine ⟨_, rfl, ?_⟩
    have HC := hI (below_blk hb HC.out)
    have HF := hI (below_blk hb HF.out)
    have HD := hI (below_blk hb HD.out)
    have HO := hI (HO.out.trans (Only.of_below hb))
    have hbj := hbj.trans (hb.mono hbj.size)
    clear hb
    refine hK.out _ _ ⟨(cell_blk HC.out 0).trans rfl, (cell_blk HF.out 6).trans rfl, (cell_blk HD.out 2).trans rfl, pw_cell_below hbj ht1⟩ (fun hHeld => ?_)
    clear hK K
    refine norm_ (by show Act.put _ (some 140) _ = _; simp only [sW]; rfl) ?_
    refine pU 19 24 1048575 (some 141) rfl rfl (by kernel_rfl) rfl (fun _ => by go_simp; with_reducible rfl) (by simp only [sW]; rfl) ?_
    refine pU 20 24 2097151 (some 142) rfl rfl (by kernel_rfl) rfl (fun _ => by go_simp; with_reducible rfl) (by simp only [sW]; rfl) ?_
    refine pU 21 24 4194303 (some 143) rfl rfl (by kernel_rfl) rfl (fun _ => by go_simp; with_reducible rfl) (by simp only [sW]; rfl) ?_
    refine pU 22 24 8388607 (some 144) rfl rfl (by kernel_rfl) rfl (fun _ => by go_simp; with_reducible rfl) (by simp only [sW]; rfl) ?_
    refine lA 23 24 16777215 none rfl rfl (by kernel_rfl) (by decide) (fun K hK => ?_)
    have cO := (cell_blk HC.out 0).trans rfl
    have fO := frozen_blk HC.out 0 (by omega)
    refine skip_ (w1 := ?_) (by rfl) rfl ?_ ?_; rotate_left; (go_simp; first | rfl | done)
    refine hK.out _ _ ?_
    clear hK K
    refine done_ (by kernel_rfl) ?_
    have C2 := hI (set_blk HC.out 0 (.bool true))
    have F2 := hI ((Below.heap_setCell wj ⟨O, 0, none⟩ (.bool true) P (by show P ≠ O; omega)).trans HF.out)
    have D2 := hI ((Below.heap_setCell wj ⟨O, 0, none⟩ (.bool true) dn (by show dn ≠ O; omega)).trans HD.out)
    have O2 := hI (HO.out.setCell (p := ⟨O, 0, none⟩) (by simp) (.bool true))
    go_wp2_with fail
    exact hK true _ C2.out F2.out D2.out O2.out (fun h => nomatch h)
end
theorem seenProp (w0 w : World) (O : Nat) (o : Bool) (f : ByteArray → Option ByteArray) (fp : KPr) (tp PV : Option Addr) (pvc : Nat) (x : S36) (A B : Option Addr) (c c2 : Nat) (hb0 : Below w0.heap.size w0 w) (hO0 : w0.heap.size ≤ O) (hO : w.heap[O]? = some (.cells #[.bool o] 85)) (hT : TxtAt w0 tp fp.text) (hPV : kPa.C w0 PV fp.params.length fp.params) (hx : k75.C w0 A x.f1.length x.f1) (hKp : KpOk fp) (hxo : okC x) (hTab : TabOk f) :
  Calls Tryz.prog 69 #[.pointer (some ⟨O, 0, none⟩), .agg #[.string fp.name, .bool fp.absent, .bool fp.has, .bool fp.hasEnd, .int .i64 fp.st, .int .i64 fp.en, .pointer tp, .slice PV fp.params.length pvc], .agg #[.string x.f0, .slice A x.f1.length c, .slice B x.f2.length c2]] w (SeenPost w O o (fun v => PropOk f fp x.f1 ∧ v = propV fp x.f1)) := by
 have hOP := lt_blk hO
 have hz0 := hb0.size
 have HT := hI hT
 have hlpv := hPV.2.1
 have hbw : ∀ w', Only [O] w w' → Below w0.heap.size w0 w' := fun w' h => hb0.trans (h.below hz0 (by intro y hy; simp at hy; omega))
 clear hT
 go_enter Tryz.func69, Tryz.ntmps69
 go_wp2_with fail
 have hF := old_blk (new_blk w (.cells #[.string fp.name, .bool fp.absent, .bool fp.has, .bool fp.hasEnd, .int .i64 fp.st, .int .i64 fp.en, .pointer tp, .slice PV fp.params.length pvc] 147)) (.cells #[.string x.f0, .slice A x.f1.length c, .slice B x.f2.length c2] 36)
 have hC := old_blk (old_blk hO (.cells #[.string fp.name, .bool fp.absent, .bool fp.has, .bool fp.hasEnd, .int .i64 fp.st, .int .i64 fp.en, .pointer tp, .slice PV fp.params.length pvc] 147)) (.cells #[.string x.f0, .slice A x.f1.length c, .slice B x.f2.length c2] 36)
 have hO1 : Only [O] w ((w.alloc (.cells #[.string fp.name, .bool fp.absent, .bool fp.has, .bool fp.hasEnd, .int .i64 fp.st, .int .i64 fp.en, .pointer tp, .slice PV fp.params.length pvc] 147)).alloc (.cells #[.string x.f0, .slice A x.f1.length c, .slice B x.f2.length c2] 36)) := ((Only.refl [O] w).alloc _).alloc _
 generalize hw1 : World.alloc _ _ = w1 at hF hC hO1 ⊢
 clear hw1
 refine (iof_ x A B c c2 fp.name w0 w1 (hbw _ hO1) hx hxo.1).mono ?_
 rintro _ w2 ⟨s, n, rfl, hb, hfs, hpv, hns, hn0, hn1⟩
 have HF := hI (below_blk hb hF)
 have HC := hI (below_blk hb hC)
 have HO := hI (hO1.trans (Only.of_below hb))
 clear hF hC hO1 hb hO
 cases s with
 | none =>
  have hnz : n = 0 := hns.2 rfl
  subst hnz
  have hFS := hI (show firstP x.f1 fp.name = none from hfs)
  have f1 : ∀ ob, (w2.alloc ob).cell? ⟨w.heap.size, 1, none⟩ = some (.bool fp.absent) := fun ob => (cell_blk (old_blk HF.out ob) 1).trans rfl
  have HC2 := hI (old_blk HC.out (.cells #[.string { data := #[] }, .slice none 0 0, .string { data := #[] }] 75))
  have HO2 := hI (HO.out.alloc (.cells #[.string { data := #[] }, .slice none 0 0, .string { data := #[] }] 75))
  clear hfs hpv hns
  unfold pc
  go_wp2
  go_ret
  exact ⟨o, fp.absent, rfl, HC2.out, HO2.out, fun h => ⟨h, (fun p hp => by rw [hFS.out] at hp; cases hp), by unfold propV; rw [hFS.out]⟩⟩
 | some q =>
  obtain ⟨p, V, cv⟩ := q
  have hnz : ¬ n = 0 := fun h => by have := hns.1 h; cases this
  have hnb : (n == 0) = false := by rw [beq_eq_false_iff_ne]; exact hnz
  have HFS := hI (show firstP x.f1 fp.name = some p from hfs)
  have HPv := hI hpv
  have hoP := hxo.2.2 p (firstP_mem HFS.out).1
  have hpl : p.f1.length ≤ 100 := by have := hoP.2.2.1; omega
  have hpq : ∀ y ∈ p.f1, okQ y := hoP.2.2.2
  have hp2s : p.f2.size ≤ 1000 := hoP.2.1
  clear hfs hpv hns hnz
  have hC := old_blk HC.out (.cells #[.string p.f0, .slice V p.f1.length cv, .string p.f2] 75)
  have hF := old_blk HF.out (.cells #[.string p.f0, .slice V p.f1.length cv, .string p.f2] 75)
  have hD := new_blk w2 (.cells #[.string p.f0, .slice V p.f1.length cv, .string p.f2] 75)
  have hO2 := HO.out.alloc (.cells #[.string p.f0, .slice V p.f1.length cv, .string p.f2] 75)
  unfold pc
  go_upto_region 4 with (fail)
  rename_i hK4
  generalize hwx : w2.alloc _ = w3 at hC hF hD hO2 ⊢
  have hOD0 : O < w2.heap.size := lt_blk HC.out
  obtain ⟨dn, hdne⟩ : ∃ dn, dn = w2.heap.size := ⟨_, rfl⟩
  rw [← hdne] at hD hOD0 ⊢
  have hOD := hOD0
  clear hwx HC HF HO hdne hnb hOD0
  refine segP4 w3 O w.heap.size dn fp tp PV pvc p V cv hOP hOD o n w0 HT.out hC hF hD _ _ ?_
  intro o4 w4 hC4 hF4 hD4 hO4 hR4
  intros
  have hO4 := hO2.trans hO4
  have H4 := hI hR4
  clear hC hF hD hO2 hR4
  refine hK4 _ _ ?_
  refine wp_seq_k (fun K5 h5 => ?_)
  refine segP5 w4 _ _ ?_
  refine h5 _ _ ?_
  refine wp_seq_k (fun K6 h6 => ?_)
  refine segPL w4 O w.heap.size dn fp tp PV pvc p V cv hOP hOD o4 w0 (hbw _ hO4) hO0 hPV hKp HPv.out hpl hpq hC4 hF4 hD4 _ _ ?_
  intro o6 b6 w6 hC6 hF6 hD6 hO6 hR6
  intros
  refine h6 _ _ ?_
  have hO6 := hO4.trans hO6
  have HB := hI hR6
  clear hC4 hF4 hD4 hO4 hR6 h5 h6
  rcases Bool.eq_false_or_eq_true fp.has with hha | hha
  ·have HS1 := hI hha
   clear hha
   have f2 : w6.cell? ⟨w.heap.size, 2, none⟩ = some (.bool true) := by rw [← HS1.out]; exact (cell_blk hF6 2).trans rfl
   have d0 : w6.cell? ⟨dn, 0, none⟩ = some (.string p.f0) := (cell_blk hD6 0).trans rfl
   have d1 : w6.cell? ⟨dn, 1, none⟩ = some (.slice V p.f1.length cv) := (cell_blk hD6 1).trans rfl
   have d2 : w6.cell? ⟨dn, 2, none⟩ = some (.string p.f2) := (cell_blk hD6 2).trans rfl
   have HC := hI hC6
   have HF := hI hF6
   have HD := hI hD6
   clear hC6 hF6 hD6
   go_wp2_with fail
   refine (iMoment p V cv w0 _ (hbw _ hO6) HPv.out).mono ?_
   rintro _ wi ⟨rfl, hb⟩
   have hC := below_blk hb HC.out
   have hF := below_blk hb HF.out
   have hD := below_blk hb HD.out
   have hO7 := hO6.trans (Only.of_below hb)
   clear hb f2 d0 d1 d2
   go_upto_region 13 with (fail)
   rename_i hK13
   refine segP13 wi O w.heap.size dn fp tp PV pvc p V cv hOP hOD o6 _ _ hC hF hD _ _ ?_
   intro o8 w8 hC8 hF8 hD8 hO8 hR8
   intros
   refine hK13 _ _ ?_
   refine wp_seq_k (fun K14 h14 => ?_)
   obtain ⟨v, hv⟩ : ∃ v, v = (b6 && (decide (fp.st < (imo p).1) && decide ((imo p).1 < fp.en))) := ⟨_, rfl⟩
   refine segP14 w8 O w.heap.size dn fp tp PV pvc b6 v _ hv hF8 _ _ ?_
   intro
   intros
   refine h14 _ _ ?_
   have HC := hI hC8
   have HO := hI (hO7.trans hO8)
   have HE : Hid (o8 = false → o = false ∧ PropOk f fp x.f1 ∧ v = propV fp x.f1) := hI (fun h => by
    obtain ⟨h1, h2, _, _⟩ := hR8 h
    obtain ⟨h3, h4⟩ := HB.out h1
    obtain ⟨h5, h6, h7, h8⟩ := H4.out h3
    refine ⟨h5, prop_fin HFS.out hTab h6 h7 h8 (fun _ => h2), ?_⟩
    rw [hv, propV_some HFS.out, h4, if_pos HS1.out])
   clear hC8 hF8 hD8 hO8 hR8 hv hC hF hD hO7 HB H4 HF HD
   go_wp2
   go_ret
   exact ⟨o8, v, rfl, HC.out, HO.out, HE.out⟩
  ·have HS1 := hI hha
   clear hha
   have f2 : w6.cell? ⟨w.heap.size, 2, none⟩ = some (.bool false) := by rw [← HS1.out]; exact (cell_blk hF6 2).trans rfl
   go_upto_region 15 with (fail)
   clear f2
   refine segP15 w6 O w.heap.size dn fp tp PV pvc p V cv hOP hOD o6 w0 (hbw _ hO6) HT.out hKp hp2s hC6 hF6 hD6 _ _ ?_
   intro o8 w8 hC8 hF8 hD8 hO8 hR8
   intros
   have HF := hI hF8
   have HD := hI hD8
   have hO8 := hO6.trans hO8
   clear hC6 hF6 hD6
   cases htx : fp.text with
   | none =>
    obtain rfl : tp = none := by have := HT.out; rw [htx] at this; exact this
    have f6 : w8.cell? ⟨w.heap.size, 6, none⟩ = some (.pointer none) := (cell_blk HF.out 6).trans rfl
    have HE : Hid (∀ u : Bool, u = (b6 && true) → o8 = false → o = false ∧ PropOk f fp x.f1 ∧ u = propV fp x.f1) := hI (fun u hu h => by
     have h1 := h
     obtain ⟨h3, h4⟩ := HB.out (hR8 h1)
     obtain ⟨h5, h6, h7, h8⟩ := H4.out h3
     refine ⟨h5, prop_fin HFS.out hTab h6 h7 h8 (fun h => by rw [HS1.out] at h; cases h), ?_⟩
     rw [hu, propV_some HFS.out, h4, HS1.out, htx]
     first | rfl | (rw [h2]; rfl))
    have HC := hI hC8
    have HO := hI hO8
    clear hC8 hF8 hD8 hO8 hR8 HB H4 HF HD htx
    cases b6 with
    | false =>
     go_wp2
     go_ret
     exact ⟨o8, false, rfl, HC.out, HO.out, HE.out false rfl⟩
    | true =>
     go_wp2
     go_ret
     exact ⟨o8, true, rfl, HC.out, HO.out, HE.out true rfl⟩
   | some t =>
    obtain ⟨tb, tof, rfl, t0, t1⟩ : ∃ b o : Nat, tp = some ⟨b, o, none⟩ ∧ w0.cell? ⟨b, o, none⟩ = some (.string t.1) ∧ w0.cell? ⟨b, o + 1, none⟩ = some (.bool t.2) := by have := HT.out; rw [htx] at this; exact this
    have htl : t.1.size ≤ 200 := hKp.text t htx
    have hlt0 : tb < w0.heap.size := World.block_lt_of_cell? w0 ⟨tb, tof, none⟩ t0
    have hbc := hbw _ hO8
    have f6 : w8.cell? ⟨w.heap.size, 6, none⟩ = some (.pointer (some ⟨tb, tof, none⟩)) := (cell_blk HF.out 6).trans rfl
    have d2 : w8.cell? ⟨dn, 2, none⟩ = some (.string p.f2) := (cell_blk HD.out 2).trans rfl
    have HTX := hI htx
    have HCR := hI (And.intro hC8 (And.intro (pw_cell_below hbc t0) (pw_cell_below hbc t1)))
    have HR8 := hI hR8
    have HO8 := hI hO8
    clear hC8 hF8 hD8 hO8 hR8 htx t0 t1 hbc
    go_wp2_with fail
    refine (seenText w8 O tb tof o8 t p.f2 HCR.out.1 HCR.out.2.1 HCR.out.2.2 (by omega) (by omega) (by omega)).mono ?_
    rintro _ w9 ⟨o9, v, rfl, hC9, hO9, hR9⟩
    have hR8 := HR8.out
    have htx := HTX.out
    have HE : Hid (∀ u : Bool, u = (b6 && v) → o9 = false → o = false ∧ PropOk f fp x.f1 ∧ u = propV fp x.f1) := hI (fun u hu h => by
     obtain ⟨h1, h2⟩ := hR9 h
     obtain ⟨h3, h4⟩ := HB.out (hR8 h1)
     obtain ⟨h5, h6, h7, h8⟩ := H4.out h3
     refine ⟨h5, prop_fin HFS.out hTab h6 h7 h8 (fun h => by rw [HS1.out] at h; cases h), ?_⟩
     rw [hu, propV_some HFS.out, h4, HS1.out, htx]
     first | rfl | (rw [h2]; rfl))
    have HC := hI hC9
    have HO := hI (HO8.out.trans hO9)
    clear hC9 hO9 hR9 f6 d2 hR8 htx HB H4
    cases v with
    | false =>
     go_wp2
     go_ret
     exact ⟨o9, false, rfl, HC.out, HO.out, HE.out false (by cases b6 <;> rfl)⟩
    | true =>
     cases b6 with
     | false =>
      go_wp2
      go_ret
      exact ⟨o9, false, rfl, HC.out, HO.out, HE.out false rfl⟩
     | true =>
      go_wp2
      go_ret
      exact ⟨o9, true, rfl, HC.out, HO.out, HE.out true rfl⟩
end Go.Proofs.YtcllaplddebilaaGreatDoor

/- laws.FnKMatch: a part of the proof: SeenC. -/
import Derived.Test.YtcllaplddebilaaGreatDoorK22
import Derived.Test.YtcllaplddebilaaGreatDoorK25
set_option maxRecDepth 1000000
set_option maxHeartbeats 64000000
set_option linter.unusedVariables false
set_option linter.unusedSimpArgs false
namespace Go.Proofs.YtcllaplddebilaaGreatDoor
open Go.RowKit Go.Sort
attribute [local go_sem] cell?_grow frozen?_grow cell?_redrawn frozen?_redrawn size_redrawn size_grow ba_get ba_extract
attribute [local simp] size_redrawn
open Go.Lib Go.Proofs.YtcllaplddebilaaGreatDoorW.PrintWords Go.Proofs.YtcllaplddebilaaGreatDoorW.PrintLast Go.Proofs.YtcllaplddebilaaGreatDoorW.PrintMore PFnKMatch
noncomputable def codeC : Code := Tryz.f37.body.getD .skip
noncomputable def codeG1 : Code := fstC (sndC codeC)
noncomputable def codeG4 : Code := fstC (sndC (sndC (sndC codeC)))
noncomputable def codeR6 : Code := fstC (sndC (thenC (sndC codeG4)))
noncomputable def codeR7 : Code := sndC (sndC (thenC (sndC codeG4)))
theorem all_sn {α : Type} (l : List α) (p : α → Bool) (k : Nat) (q : α) (h : l[k]? = some q) : (l.take (k + 1)).all p = ((l.take k).all p && p q) := by
 rw [take_snoc' _ _ _ h, List.all_append]
 simp
noncomputable def codeG8 : Code := fstC (sndC (sndC (sndC (sndC codeC))))
noncomputable def codeG13 : Code := fstC (sndC (sndC (sndC (sndC (sndC codeC)))))
noncomputable def blockC : Code → Code
 | .block _ c => c
 | c => c
noncomputable def loopC : Code → Code
 | .loop c => c
 | c => c
noncomputable def codeC3 : Code := blockC (fstC (sndC (sndC (loopC (blockC (sndC codeG13))))))
noncomputable def codeK : Code := sndC (fstC (sndC (sndC codeC3)))
noncomputable def codeR27 : Code := fstC (thenC (sndC (fstC (sndC (sndC (sndC codeC3))))))
theorem any_sn {α : Type} (l : List α) (p : α → Bool) (k : Nat) (q : α) (h : l[k]? = some q) : (l.take (k + 1)).any p = ((l.take k).any p || p q) := by
 rw [take_snoc' _ _ _ h, List.any_append]
 simp
theorem timeV_of {hasEnd : Bool} {st en a b : Int} {x : S36} (hs : spanV x = (a, b)) (hab : a ≤ b) (hst : 0 ≤ st) (hen : 0 ≤ en) (h1 : a ≠ st) (h2 : b ≠ st) (h3 : hasEnd = true → a ≠ en ∧ b ≠ en ∧ st < en) :
  timeV true hasEnd st en x = ((decide (st < b) || (decide (a = b) && decide (st ≤ a))) && (!hasEnd || decide (a < en))) := by
 unfold timeV
 rw [if_pos rfl, hs]
 unfold evR momS
 cases hasEnd
 ·rw [Bool.eq_iff_iff]
  simp
  omega
 ·obtain ⟨h4, h5, h6⟩ := h3 rfl
  rw [Bool.eq_iff_iff]
  simp
  omega
section
variable {u0 u1 u2 u3 u4 u5 u6 u7 u8 u9 u10 u11 u12 u13 u14 u15 u16 u17 u18 u19 u20 u21 u22 u23 u24 u25 u26 u27 u28 u29 u30 u31 u32 u33 u34 u35 u36 u37 u38 u39 u40 u41 u42 u43 u44 u45 u46 u47 u48 u49 u50 u51 u52 u53 u54 u55 u56 u57 u58 u59 u60 u61 u62 u63 u64 u65 u66 u67 u68 u69 u70 u71 u72 u73 u74 u75 u76 u77 u78 u79 u80 u81 u82 u83 u84 u85 u86 u87 u88 u89 u90 u91 u92 u93 u94 u95 u96 u97 u98 u99 u100 u101 u102 u103 u104 u105 u106 u107 u108 u109 u110 u111 u112 u113 u114 u115 u116 u117 u118 u119 u120 u121 u122 u123 u124 u125 u126 u127 u128 u129 u130 u131 u132 u133 u134 u135 u136 u137 u138 u139 u140 u141 u142 u143 u144 u145 u146 u147 u148 u149 u150 u151 u152 u153 u154 u155 u156 u157 u158 u159 u160 u161 u162 u163 u164 u165 u166 u167 u168 u169 u170 u171 u172 u173 u174 u175 u176 u177 u178 u179 u180 u181 u182 u183 u184 u185 u186 u187 u188 u189 u190 u191 u192 u193 : Value}
theorem segR0 (w : World) (O : Nat) (fc : KCo) (x : S36) (PA CA A B : Option Addr) (pac cac c c2 : Nat) (o1 : Bool)
  (hC : w.heap[O]? = some (.cells #[.bool o1] 85))
  (K : Act → World → Prop) (Q : Exit → Act → World → Prop)
  (hK : ∀ w' : World, w'.heap[O]? = some (.cells #[.bool o1] 85) → w'.heap[w.heap.size]? = some (.cells #[.string fc.name, .bool fc.absent, .bool fc.has, .bool fc.hasEnd, .int .i64 fc.st, .int .i64 fc.en, .slice PA fc.props.length pac, .slice CA fc.comps.length cac] 42) → w'.heap[w.heap.size + 1]? = some (.cells #[.string x.f0, .slice A x.f1.length c, .slice B x.f2.length c2] 36) → Only [O] w w' → K ⟨#[.pointer (some ⟨O, 0, none⟩), .agg #[.string fc.name, .bool fc.absent, .bool fc.has, .bool fc.hasEnd, .int .i64 fc.st, .int .i64 fc.en, .slice PA fc.props.length pac, .slice CA fc.comps.length cac], .agg #[.string x.f0, .slice A x.f1.length c, .slice B x.f2.length c2], u3, .pointer (some ⟨w.heap.size, 0, none⟩), .pointer (some ⟨w.heap.size + 1, 0, none⟩), .bool false, u7, u8, u9, u10, u11, u12, u13, u14, u15, u16, u17, u18, u19, u20, u21, u22, u23, u24, u25, u26, u27, u28, u29, u30, u31, u32, u33, u34, u35, u36, u37, u38, u39, u40, u41, u42, u43, u44, u45, u46, u47, u48, u49, u50, u51, u52, u53, u54, u55, u56, u57, u58, u59, u60, u61, u62, u63, u64, u65, u66, u67, u68, u69, u70, u71, u72, u73, u74, u75, u76, u77, u78, u79, u80, u81, u82, u83, u84, u85, u86, u87, u88, u89, u90, u91, u92, u93, u94, u95, u96, u97, u98, u99, u100, u101, u102, u103, u104, u105, u106, u107, u108, u109, u110, u111, u112, u113, u114, u115, u116, u117, u118, u119, u120, u121, u122, u123, u124, u125, u126, u127, u128, u129, u130, u131, u132, u133, u134, u135, u136, u137, u138, u139, u140, u141, u142, u143, u144, u145, u146, u147, u148, u149, u150, u151, u152, u153, u154, u155, u156, u157, u158, u159, u160, u161, u162, u163, u164, u165, u166, u167, u168, u169, u170, u171, u172, u173, u174, u175, u176, u177, u178, u179, u180, u181, u182, u183, u184, u185, u186, u187, u188, u189, u190, u191, u192, u193], []⟩ w') :
  Code.wp Tryz.prog (fstC codeC) (Exit.then K Q) ⟨#[.pointer (some ⟨O, 0, none⟩), .agg #[.string fc.name, .bool fc.absent, .bool fc.has, .bool fc.hasEnd, .int .i64 fc.st, .int .i64 fc.en, .slice PA fc.props.length pac, .slice CA fc.comps.length cac], .agg #[.string x.f0, .slice A x.f1.length c, .slice B x.f2.length c2], u3, u4, u5, u6, u7, u8, u9, u10, u11, u12, u13, u14, u15, u16, u17, u18, u19, u20, u21, u22, u23, u24, u25, u26, u27, u28, u29, u30, u31, u32, u33, u34, u35, u36, u37, u38, u39, u40, u41, u42, u43, u44, u45, u46, u47, u48, u49, u50, u51, u52, u53, u54, u55, u56, u57, u58, u59, u60, u61, u62, u63, u64, u65, u66, u67, u68, u69, u70, u71, u72, u73, u74, u75, u76, u77, u78, u79, u80, u81, u82, u83, u84, u85, u86, u87, u88, u89, u90, u91, u92, u93, u94, u95, u96, u97, u98, u99, u100, u101, u102, u103, u104, u105, u106, u107, u108, u109, u110, u111, u112, u113, u114, u115, u116, u117, u118, u119, u120, u121, u122, u123, u124, u125, u126, u127, u128, u129, u130, u131, u132, u133, u134, u135, u136, u137, u138, u139, u140, u141, u142, u143, u144, u145, u146, u147, u148, u149, u150, u151, u152, u153, u154, u155, u156, u157, u158, u159, u160, u161, u162, u163, u164, u165, u166, u167, u168, u169, u170, u171, u172, u173, u174, u175, u176, u177, u178, u179, u180, u181, u182, u183, u184, u185, u186, u187, u188, u189, u190, u191, u192, u193], []⟩ w := by
 conv => arg 2; whnf
 have hF := old_blk (new_blk w (.cells #[.string fc.name, .bool fc.absent, .bool fc.has, .bool fc.hasEnd, .int .i64 fc.st, .int .i64 fc.en, .slice PA fc.props.length pac, .slice CA fc.comps.length cac] 42)) (.cells #[.string x.f0, .slice A x.f1.length c, .slice B x.f2.length c2] 36)
 have hX := new_blk (w.alloc (.cells #[.string fc.name, .bool fc.absent, .bool fc.has, .bool fc.hasEnd, .int .i64 fc.st, .int .i64 fc.en, .slice PA fc.props.length pac, .slice CA fc.comps.length cac] 42)) (.cells #[.string x.f0, .slice A x.f1.length c, .slice B x.f2.length c2] 36)
 have hC2 := old_blk (old_blk hC (.cells #[.string fc.name, .bool fc.absent, .bool fc.has, .bool fc.hasEnd, .int .i64 fc.st, .int .i64 fc.en, .slice PA fc.props.length pac, .slice CA fc.comps.length cac] 42)) (.cells #[.string x.f0, .slice A x.f1.length c, .slice B x.f2.length c2] 36)
 have hO1 : Only [O] w ((w.alloc (.cells #[.string fc.name, .bool fc.absent, .bool fc.has, .bool fc.hasEnd, .int .i64 fc.st, .int .i64 fc.en, .slice PA fc.props.length pac, .slice CA fc.comps.length cac] 42)).alloc (.cells #[.string x.f0, .slice A x.f1.length c, .slice B x.f2.length c2] 36)) := ((Only.refl [O] w).alloc _).alloc _
 simp only [World.size_alloc] at hX
 have HF := hI hF
 have HX := hI hX
 have HC := hI hC2
 have HO := hI hO1
 clear hF hX hC2 hO1 hC
 go_wp2_with fail
 exact hK _ HC.out HF.out HX.out HO.out
theorem segG1 (w : World) (O P : Nat) (fc : KCo) (x : S36) (PA CA A B : Option Addr) (pac cac c c2 : Nat) (o1 : Bool) (hne : O < P)
  (hC : w.heap[O]? = some (.cells #[.bool o1] 85)) (hF : w.heap[P]? = some (.cells #[.string fc.name, .bool fc.absent, .bool fc.has, .bool fc.hasEnd, .int .i64 fc.st, .int .i64 fc.en, .slice PA fc.props.length pac, .slice CA fc.comps.length cac] 42)) (hX : w.heap[P + 1]? = some (.cells #[.string x.f0, .slice A x.f1.length c, .slice B x.f2.length c2] 36))
  (K : Act → World → Prop) (Q : Exit → Act → World → Prop)
  (hK : ∀ (o2 : Bool) (w' : World), w'.heap[O]? = some (.cells #[.bool o2] 85) → w'.heap[P]? = some (.cells #[.string fc.name, .bool fc.absent, .bool fc.has, .bool fc.hasEnd, .int .i64 fc.st, .int .i64 fc.en, .slice PA fc.props.length pac, .slice CA fc.comps.length cac] 42) → w'.heap[P + 1]? = some (.cells #[.string x.f0, .slice A x.f1.length c, .slice B x.f2.length c2] 36) → Only [O] w w' → (o2 = false → o1 = false) → ∀ {y20 y21 y22 y23 y24 y25 y26 y27 y28 y29 y30 y31 y32 y33 : Value}, K ⟨#[.pointer (some ⟨O, 0, none⟩), u1, u2, u3, .pointer (some ⟨P, 0, none⟩), .pointer (some ⟨P + 1, 0, none⟩), u6, u7, u8, u9, u10, u11, u12, u13, u14, u15, u16, u17, u18, u19, y20, y21, y22, y23, y24, y25, y26, y27, y28, y29, y30, y31, y32, y33, u34, u35, u36, u37, u38, u39, u40, u41, u42, u43, u44, u45, u46, u47, u48, u49, u50, u51, u52, u53, u54, u55, u56, u57, u58, u59, u60, u61, u62, u63, u64, u65, u66, u67, u68, u69, u70, u71, u72, u73, u74, u75, u76, u77, u78, u79, u80, u81, u82, u83, u84, u85, u86, u87, u88, u89, u90, u91, u92, u93, u94, u95, u96, u97, u98, u99, u100, u101, u102, u103, u104, u105, u106, u107, u108, u109, u110, u111, u112, u113, u114, u115, u116, u117, u118, u119, u120, u121, u122, u123, u124, u125, u126, u127, u128, u129, u130, u131, u132, u133, u134, u135, u136, u137, u138, u139, u140, u141, u142, u143, u144, u145, u146, u147, u148, u149, u150, u151, u152, u153, u154, u155, u156, u157, u158, u159, u160, u161, u162, u163, u164, u165, u166, u167, u168, u169, u170, u171, u172, u173, u174, u175, u176, u177, u178, u179, u180, u181, u182, u183, u184, u185, u186, u187, u188, u189, u190, u191, u192, u193], []⟩ w') :
  Code.wp Tryz.prog codeG1 (Exit.then K Q) ⟨#[.pointer (some ⟨O, 0, none⟩), u1, u2, u3, .pointer (some ⟨P, 0, none⟩), .pointer (some ⟨P + 1, 0, none⟩), u6, u7, u8, u9, u10, u11, u12, u13, u14, u15, u16, u17, u18, u19, u20, u21, u22, u23, u24, u25, u26, u27, u28, u29, u30, u31, u32, u33, u34, u35, u36, u37, u38, u39, u40, u41, u42, u43, u44, u45, u46, u47, u48, u49, u50, u51, u52, u53, u54, u55, u56, u57, u58, u59, u60, u61, u62, u63, u64, u65, u66, u67, u68, u69, u70, u71, u72, u73, u74, u75, u76, u77, u78, u79, u80, u81, u82, u83, u84, u85, u86, u87, u88, u89, u90, u91, u92, u93, u94, u95, u96, u97, u98, u99, u100, u101, u102, u103, u104, u105, u106, u107, u108, u109, u110, u111, u112, u113, u114, u115, u116, u117, u118, u119, u120, u121, u122, u123, u124, u125, u126, u127, u128, u129, u130, u131, u132, u133, u134, u135, u136, u137, u138, u139, u140, u141, u142, u143, u144, u145, u146, u147, u148, u149, u150, u151, u152, u153, u154, u155, u156, u157, u158, u159, u160, u161, u162, u163, u164, u165, u166, u167, u168, u169, u170, u171, u172, u173, u174, u175, u176, u177, u178, u179, u180, u181, u182, u183, u184, u185, u186, u187, u188, u189, u190, u191, u192, u193], []⟩ w := by
 conv => arg 2; whnf
 obtain ⟨ab, hab⟩ : ∃ b, fc.absent = b := ⟨_, rfl⟩
 obtain ⟨hs, hhs⟩ : ∃ b, fc.has = b := ⟨_, rfl⟩
 obtain ⟨he, hhe⟩ : ∃ b, fc.hasEnd = b := ⟨_, rfl⟩
 have f1 : w.cell? ⟨P, 1, none⟩ = some (.bool ab) := by rw [← hab]; exact (cell_blk hF 1).trans rfl
 have f2 : w.cell? ⟨P, 2, none⟩ = some (.bool hs) := by rw [← hhs]; exact (cell_blk hF 2).trans rfl
 have f3 : w.cell? ⟨P, 3, none⟩ = some (.bool he) := by rw [← hhe]; exact (cell_blk hF 3).trans rfl
 have r1 : w.frozen? ⟨O, 0, none⟩ = false := frozen_blk hC 0 (by omega)
 have r0 : w.cell? ⟨O, 0, none⟩ = some (.bool o1) := (cell_blk hC 0).trans rfl
 have HC := hI hC
 have HF := hI hF
 have HX := hI hX
 clear hC hF hX hab hhs hhe
 have C2 := hI (set_blk HC.out 0 (.bool true))
 have F2 := hI ((Below.heap_setCell w ⟨O, 0, none⟩ (.bool true) P (by show P ≠ O; omega)).trans HF.out)
 have X2 := hI ((Below.heap_setCell w ⟨O, 0, none⟩ (.bool true) (P + 1) (by show P + 1 ≠ O; omega)).trans HX.out)
 have O2 := hI ((Only.refl [O] w).setCell (p := ⟨O, 0, none⟩) (by simp) (.bool true))
 cases ab <;> cases he <;> cases hs
 all_goals (
  go_wp2_with fail
  first
  | exact hK o1 _ HC.out HF.out HX.out (Only.refl _ _) (fun h => h)
  | exact hK true _ C2.out F2.out X2.out O2.out (fun h => nomatch h) )
theorem segR3 (w : World)
  (K : Act → World → Prop) (Q : Exit → Act → World → Prop) (hK : K ⟨#[u0, u1, u2, u3, u4, u5, u6, .bool true, u8, u9, u10, u11, u12, u13, u14, u15, u16, u17, u18, u19, u20, u21, u22, u23, u24, u25, u26, u27, u28, u29, u30, u31, u32, u33, u34, u35, u36, u37, u38, u39, u40, u41, u42, u43, u44, u45, u46, u47, u48, u49, u50, u51, u52, u53, u54, u55, u56, u57, u58, u59, u60, u61, u62, u63, u64, u65, u66, u67, u68, u69, u70, u71, u72, u73, u74, u75, u76, u77, u78, u79, u80, u81, u82, u83, u84, u85, u86, u87, u88, u89, u90, u91, u92, u93, u94, u95, u96, u97, u98, u99, u100, u101, u102, u103, u104, u105, u106, u107, u108, u109, u110, u111, u112, u113, u114, u115, u116, u117, u118, u119, u120, u121, u122, u123, u124, u125, u126, u127, u128, u129, u130, u131, u132, u133, u134, u135, u136, u137, u138, u139, u140, u141, u142, u143, u144, u145, u146, u147, u148, u149, u150, u151, u152, u153, u154, u155, u156, u157, u158, u159, u160, u161, u162, u163, u164, u165, u166, u167, u168, u169, u170, u171, u172, u173, u174, u175, u176, u177, u178, u179, u180, u181, u182, u183, u184, u185, u186, u187, u188, u189, u190, u191, u192, u193], []⟩ w) :
  Code.wp Tryz.prog (fstC (sndC (sndC codeC))) (Exit.then K Q) ⟨#[u0, u1, u2, u3, u4, u5, u6, u7, u8, u9, u10, u11, u12, u13, u14, u15, u16, u17, u18, u19, u20, u21, u22, u23, u24, u25, u26, u27, u28, u29, u30, u31, u32, u33, u34, u35, u36, u37, u38, u39, u40, u41, u42, u43, u44, u45, u46, u47, u48, u49, u50, u51, u52, u53, u54, u55, u56, u57, u58, u59, u60, u61, u62, u63, u64, u65, u66, u67, u68, u69, u70, u71, u72, u73, u74, u75, u76, u77, u78, u79, u80, u81, u82, u83, u84, u85, u86, u87, u88, u89, u90, u91, u92, u93, u94, u95, u96, u97, u98, u99, u100, u101, u102, u103, u104, u105, u106, u107, u108, u109, u110, u111, u112, u113, u114, u115, u116, u117, u118, u119, u120, u121, u122, u123, u124, u125, u126, u127, u128, u129, u130, u131, u132, u133, u134, u135, u136, u137, u138, u139, u140, u141, u142, u143, u144, u145, u146, u147, u148, u149, u150, u151, u152, u153, u154, u155, u156, u157, u158, u159, u160, u161, u162, u163, u164, u165, u166, u167, u168, u169, u170, u171, u172, u173, u174, u175, u176, u177, u178, u179, u180, u181, u182, u183, u184, u185, u186, u187, u188, u189, u190, u191, u192, u193], []⟩ w := by
 conv => arg 2; whnf
 go_wp2_with fail
 exact hK
theorem segR7 (w : World) (O P : Nat) (fc : KCo) (x : S36) (PA CA A B : Option Addr) (pac cac c c2 : Nat) (a b : Int) (v : Bool)
  (hF : w.heap[P]? = some (.cells #[.string fc.name, .bool fc.absent, .bool fc.has, .bool fc.hasEnd, .int .i64 fc.st, .int .i64 fc.en, .slice PA fc.props.length pac, .slice CA fc.comps.length cac] 42)) (hv : v = ((decide (fc.st < b) || (decide (a = b) && decide (fc.st ≤ a))) && (!fc.hasEnd || decide (a < fc.en))))
  (K : Act → World → Prop) (Q : Exit → Act → World → Prop)
  (hK : ∀ {y88 y89 y90 y91 y92 y93 y94 y95 y96 y97 y98 y99 y100 y101 y102 y103 y104 y105 y106 y107 y108 y109 y110 y111 y112 y113 : Value}, K ⟨#[.pointer (some ⟨O, 0, none⟩), u1, u2, u3, .pointer (some ⟨P, 0, none⟩), .pointer (some ⟨P + 1, 0, none⟩), u6, .bool v, .int .i64 a, .int .i64 b, u10, u11, u12, u13, u14, u15, u16, u17, u18, u19, u20, u21, u22, u23, u24, u25, u26, u27, u28, u29, u30, u31, u32, u33, u34, u35, u36, u37, u38, u39, u40, u41, u42, u43, u44, u45, u46, u47, u48, u49, u50, u51, u52, u53, u54, u55, u56, u57, u58, u59, u60, u61, u62, u63, u64, u65, u66, u67, u68, u69, u70, u71, u72, u73, u74, u75, u76, u77, u78, u79, u80, u81, u82, u83, u84, u85, u86, u87, y88, y89, y90, y91, y92, y93, y94, y95, y96, y97, y98, y99, y100, y101, y102, y103, y104, y105, y106, y107, y108, y109, y110, y111, y112, y113, u114, u115, u116, u117, u118, u119, u120, u121, u122, u123, u124, u125, u126, u127, u128, u129, u130, u131, u132, u133, u134, u135, u136, u137, u138, u139, u140, u141, u142, u143, u144, u145, u146, u147, u148, u149, u150, u151, u152, u153, u154, u155, u156, u157, u158, u159, u160, u161, u162, u163, u164, u165, u166, u167, u168, u169, u170, u171, u172, u173, u174, u175, u176, u177, u178, u179, u180, u181, u182, u183, u184, u185, u186, u187, u188, u189, u190, u191, u192, u193], []⟩ w) :
  Code.wp Tryz.prog codeR7 (Exit.then K Q) ⟨#[.pointer (some ⟨O, 0, none⟩), u1, u2, u3, .pointer (some ⟨P, 0, none⟩), .pointer (some ⟨P + 1, 0, none⟩), u6, .bool true, .int .i64 a, .int .i64 b, u10, u11, u12, u13, u14, u15, u16, u17, u18, u19, u20, u21, u22, u23, u24, u25, u26, u27, u28, u29, u30, u31, u32, u33, u34, u35, u36, u37, u38, u39, u40, u41, u42, u43, u44, u45, u46, u47, u48, u49, u50, u51, u52, u53, u54, u55, u56, u57, u58, u59, u60, u61, u62, u63, u64, u65, u66, u67, u68, u69, u70, u71, u72, u73, u74, u75, u76, u77, u78, u79, u80, u81, u82, u83, u84, u85, u86, u87, u88, u89, u90, u91, u92, u93, u94, u95, u96, u97, u98, u99, u100, u101, u102, u103, u104, u105, u106, u107, u108, u109, u110, u111, u112, u113, u114, u115, u116, u117, u118, u119, u120, u121, u122, u123, u124, u125, u126, u127, u128, u129, u130, u131, u132, u133, u134, u135, u136, u137, u138, u139, u140, u141, u142, u143, u144, u145, u146, u147, u148, u149, u150, u151, u152, u153, u154, u155, u156, u157, u158, u159, u160, u161, u162, u163, u164, u165, u166, u167, u168, u169, u170, u171, u172, u173, u174, u175, u176, u177, u178, u179, u180, u181, u182, u183, u184, u185, u186, u187, u188, u189, u190, u191, u192, u193], []⟩ w := by
 conv => arg 2; whnf
 have f4 : w.cell? ⟨P, 4, none⟩ = some (.int .i64 fc.st) := (cell_blk hF 4).trans rfl
 have f5 : w.cell? ⟨P, 5, none⟩ = some (.int .i64 fc.en) := (cell_blk hF 5).trans rfl
 obtain ⟨he, hhe⟩ : ∃ b, fc.hasEnd = b := ⟨_, rfl⟩
 have f3 : w.cell? ⟨P, 3, none⟩ = some (.bool he) := by rw [← hhe]; exact (cell_blk hF 3).trans rfl
 rw [hhe] at hv
 clear hF hhe
 by_cases p1 : fc.st < b
 ·skip
  cases he with
  | false =>
   obtain rfl : v = true := by rw [hv]; simp [p1]
   clear hv
   go_wp2_with fail
   exact hK
  | true =>
   by_cases p9 : a < fc.en
   ·skip
    obtain rfl : v = true := by rw [hv]; simp [p1, p9]
    clear hv
    go_wp2_with fail
    exact hK
   ·skip
    obtain rfl : v = false := by rw [hv]; simp [p1, p9]
    clear hv
    go_wp2_with fail
    exact hK
 ·by_cases p2 : a = b
  ·have p2b : (a == b) = true := by rw [beq_iff_eq]; exact p2
   have p2d : decide (a = b) = true := decide_eq_true p2
   replace hv : v = ((decide (fc.st < b) || (true && decide (fc.st ≤ a))) && (!he || decide (a < fc.en))) := by rw [hv, p2d]
   clear p2 p2d
   by_cases p3 : fc.st ≤ a
   ·skip
    cases he with
    | false =>
     obtain rfl : v = true := by rw [hv]; simp [p1, p3]
     clear hv
     go_wp2_with fail
     exact hK
    | true =>
     by_cases p9 : a < fc.en
     ·skip
      obtain rfl : v = true := by rw [hv]; simp [p1, p3, p9]
      clear hv
      go_wp2_with fail
      exact hK
     ·skip
      obtain rfl : v = false := by rw [hv]; simp [p1, p3, p9]
      clear hv
      go_wp2_with fail
      exact hK
   ·skip
    obtain rfl : v = false := by rw [hv]; simp [p1, p3]
    clear hv
    go_wp2_with fail
    exact hK
  ·have p2b : (a == b) = false := by rw [beq_eq_false_iff_ne]; exact p2
   have p2d : decide (a = b) = false := decide_eq_false p2
   replace hv : v = ((decide (fc.st < b) || (false && decide (fc.st ≤ a))) && (!he || decide (a < fc.en))) := by rw [hv, p2d]
   clear p2 p2d
   obtain rfl : v = false := by rw [hv]; simp [p1]
   clear hv
   go_wp2_with fail
   exact hK
theorem segR6 (w : World) (O P : Nat) (fc : KCo) (x : S36) (PA CA A B : Option Addr) (pac cac c c2 : Nat) (a b : Int) (ok o1 : Bool) (hne : O < P)
  (hC : w.heap[O]? = some (.cells #[.bool o1] 85)) (hF : w.heap[P]? = some (.cells #[.string fc.name, .bool fc.absent, .bool fc.has, .bool fc.hasEnd, .int .i64 fc.st, .int .i64 fc.en, .slice PA fc.props.length pac, .slice CA fc.comps.length cac] 42)) (hX : w.heap[P + 1]? = some (.cells #[.string x.f0, .slice A x.f1.length c, .slice B x.f2.length c2] 36))
  (K : Act → World → Prop) (Q : Exit → Act → World → Prop)
  (hK : ∀ (o2 : Bool) (w' : World), w'.heap[O]? = some (.cells #[.bool o2] 85) → w'.heap[P]? = some (.cells #[.string fc.name, .bool fc.absent, .bool fc.has, .bool fc.hasEnd, .int .i64 fc.st, .int .i64 fc.en, .slice PA fc.props.length pac, .slice CA fc.comps.length cac] 42) → w'.heap[P + 1]? = some (.cells #[.string x.f0, .slice A x.f1.length c, .slice B x.f2.length c2] 36) → Only [O] w w' → (o2 = false → o1 = false ∧ ok = true ∧ a ≠ fc.st ∧ b ≠ fc.st ∧ (fc.hasEnd = true → a ≠ fc.en ∧ b ≠ fc.en ∧ fc.st < fc.en)) → ∀ {y42 y43 y44 y45 y46 y47 y48 y49 y50 y51 y52 y53 y54 y55 y56 y57 y58 y59 y60 y61 y62 y63 y64 y65 y66 y67 y68 y69 y70 y71 y72 y73 y74 y75 y76 y77 y78 y79 y80 y81 y82 y83 y84 y85 y86 y87 : Value}, K ⟨#[.pointer (some ⟨O, 0, none⟩), u1, u2, u3, .pointer (some ⟨P, 0, none⟩), .pointer (some ⟨P + 1, 0, none⟩), u6, u7, .int .i64 a, .int .i64 b, .bool ok, u11, u12, u13, u14, u15, u16, u17, u18, u19, u20, u21, u22, u23, u24, u25, u26, u27, u28, u29, u30, u31, u32, u33, u34, u35, u36, u37, u38, u39, u40, u41, y42, y43, y44, y45, y46, y47, y48, y49, y50, y51, y52, y53, y54, y55, y56, y57, y58, y59, y60, y61, y62, y63, y64, y65, y66, y67, y68, y69, y70, y71, y72, y73, y74, y75, y76, y77, y78, y79, y80, y81, y82, y83, y84, y85, y86, y87, u88, u89, u90, u91, u92, u93, u94, u95, u96, u97, u98, u99, u100, u101, u102, u103, u104, u105, u106, u107, u108, u109, u110, u111, u112, u113, u114, u115, u116, u117, u118, u119, u120, u121, u122, u123, u124, u125, u126, u127, u128, u129, u130, u131, u132, u133, u134, u135, u136, u137, u138, u139, u140, u141, u142, u143, u144, u145, u146, u147, u148, u149, u150, u151, u152, u153, u154, u155, u156, u157, u158, u159, u160, u161, u162, u163, u164, u165, u166, u167, u168, u169, u170, u171, u172, u173, u174, u175, u176, u177, u178, u179, u180, u181, u182, u183, u184, u185, u186, u187, u188, u189, u190, u191, u192, u193], []⟩ w') :
  Code.wp Tryz.prog codeR6 (Exit.then K Q) ⟨#[.pointer (some ⟨O, 0, none⟩), u1, u2, u3, .pointer (some ⟨P, 0, none⟩), .pointer (some ⟨P + 1, 0, none⟩), u6, u7, .int .i64 a, .int .i64 b, .bool ok, u11, u12, u13, u14, u15, u16, u17, u18, u19, u20, u21, u22, u23, u24, u25, u26, u27, u28, u29, u30, u31, u32, u33, u34, u35, u36, u37, u38, u39, u40, u41, u42, u43, u44, u45, u46, u47, u48, u49, u50, u51, u52, u53, u54, u55, u56, u57, u58, u59, u60, u61, u62, u63, u64, u65, u66, u67, u68, u69, u70, u71, u72, u73, u74, u75, u76, u77, u78, u79, u80, u81, u82, u83, u84, u85, u86, u87, u88, u89, u90, u91, u92, u93, u94, u95, u96, u97, u98, u99, u100, u101, u102, u103, u104, u105, u106, u107, u108, u109, u110, u111, u112, u113, u114, u115, u116, u117, u118, u119, u120, u121, u122, u123, u124, u125, u126, u127, u128, u129, u130, u131, u132, u133, u134, u135, u136, u137, u138, u139, u140, u141, u142, u143, u144, u145, u146, u147, u148, u149, u150, u151, u152, u153, u154, u155, u156, u157, u158, u159, u160, u161, u162, u163, u164, u165, u166, u167, u168, u169, u170, u171, u172, u173, u174, u175, u176, u177, u178, u179, u180, u181, u182, u183, u184, u185, u186, u187, u188, u189, u190, u191, u192, u193], []⟩ w := by
 conv => arg 2; whnf
 obtain ⟨he, hhe⟩ : ∃ b, fc.hasEnd = b := ⟨_, rfl⟩
 have HHE := hI hhe
 have f4 : w.cell? ⟨P, 4, none⟩ = some (.int .i64 fc.st) := (cell_blk hF 4).trans rfl
 have f5 : w.cell? ⟨P, 5, none⟩ = some (.int .i64 fc.en) := (cell_blk hF 5).trans rfl
 have f3 : w.cell? ⟨P, 3, none⟩ = some (.bool he) := by rw [← hhe]; exact (cell_blk hF 3).trans rfl
 have r1 : w.frozen? ⟨O, 0, none⟩ = false := frozen_blk hC 0 (by omega)
 have r0 : w.cell? ⟨O, 0, none⟩ = some (.bool o1) := (cell_blk hC 0).trans rfl
 have HC := hI hC
 have HF := hI hF
 have HX := hI hX
 clear hC hF hX hhe
 cases o1 with
 | true =>
  have C2 := hI (set_blk HC.out 0 (.bool true))
  have F2 := hI ((Below.heap_setCell w ⟨O, 0, none⟩ (.bool true) P (by show P ≠ O; omega)).trans HF.out)
  have X2 := hI ((Below.heap_setCell w ⟨O, 0, none⟩ (.bool true) (P + 1) (by show P + 1 ≠ O; omega)).trans HX.out)
  have O2 := hI ((Only.refl [O] w).setCell (p := ⟨O, 0, none⟩) (by simp) (.bool true))
  go_wp2_with fail
  exact hK true _ C2.out F2.out X2.out O2.out (fun h => nomatch h)
 | false =>
  cases ok with
  | false =>
   have C2 := hI (set_blk HC.out 0 (.bool true))
   have F2 := hI ((Below.heap_setCell w ⟨O, 0, none⟩ (.bool true) P (by show P ≠ O; omega)).trans HF.out)
   have X2 := hI ((Below.heap_setCell w ⟨O, 0, none⟩ (.bool true) (P + 1) (by show P + 1 ≠ O; omega)).trans HX.out)
   have O2 := hI ((Only.refl [O] w).setCell (p := ⟨O, 0, none⟩) (by simp) (.bool true))
   go_wp2_with fail
   exact hK true _ C2.out F2.out X2.out O2.out (fun h => nomatch h)
  | true =>
   by_cases q1 : a = fc.st
   ·have q1b : (a == fc.st) = true := by rw [beq_iff_eq]; exact q1
    clear q1
    have C2 := hI (set_blk HC.out 0 (.bool true))
    have F2 := hI ((Below.heap_setCell w ⟨O, 0, none⟩ (.bool true) P (by show P ≠ O; omega)).trans HF.out)
    have X2 := hI ((Below.heap_setCell w ⟨O, 0, none⟩ (.bool true) (P + 1) (by show P + 1 ≠ O; omega)).trans HX.out)
    have O2 := hI ((Only.refl [O] w).setCell (p := ⟨O, 0, none⟩) (by simp) (.bool true))
    go_wp2_with fail
    exact hK true _ C2.out F2.out X2.out O2.out (fun h => nomatch h)
   ·have q1b : (a == fc.st) = false := by rw [beq_eq_false_iff_ne]; exact q1
    have Q1 := hI q1
    clear q1
    by_cases q2 : b = fc.st
    ·have q2b : (b == fc.st) = true := by rw [beq_iff_eq]; exact q2
     clear q2
     have C2 := hI (set_blk HC.out 0 (.bool true))
     have F2 := hI ((Below.heap_setCell w ⟨O, 0, none⟩ (.bool true) P (by show P ≠ O; omega)).trans HF.out)
     have X2 := hI ((Below.heap_setCell w ⟨O, 0, none⟩ (.bool true) (P + 1) (by show P + 1 ≠ O; omega)).trans HX.out)
     have O2 := hI ((Only.refl [O] w).setCell (p := ⟨O, 0, none⟩) (by simp) (.bool true))
     go_wp2_with fail
     exact hK true _ C2.out F2.out X2.out O2.out (fun h => nomatch h)
    ·have q2b : (b == fc.st) = false := by rw [beq_eq_false_iff_ne]; exact q2
     have Q2 := hI q2
     clear q2
     cases he with
     | false =>
      have C2 := hI (set_blk HC.out 0 (.bool false))
      have F2 := hI ((Below.heap_setCell w ⟨O, 0, none⟩ (.bool false) P (by show P ≠ O; omega)).trans HF.out)
      have X2 := hI ((Below.heap_setCell w ⟨O, 0, none⟩ (.bool false) (P + 1) (by show P + 1 ≠ O; omega)).trans HX.out)
      have O2 := hI ((Only.refl [O] w).setCell (p := ⟨O, 0, none⟩) (by simp) (.bool false))
      go_wp2_with fail
      exact hK false _ C2.out F2.out X2.out O2.out (fun _ => ⟨(by first | rfl | trivial), (by first | rfl | trivial), Q1.out, Q2.out, fun h => by rw [HHE.out] at h; cases h⟩)
     | true =>
      by_cases q3 : a = fc.en
      ·have q3b : (a == fc.en) = true := by rw [beq_iff_eq]; exact q3
       clear q3
       have C2 := hI (set_blk HC.out 0 (.bool true))
       have F2 := hI ((Below.heap_setCell w ⟨O, 0, none⟩ (.bool true) P (by show P ≠ O; omega)).trans HF.out)
       have X2 := hI ((Below.heap_setCell w ⟨O, 0, none⟩ (.bool true) (P + 1) (by show P + 1 ≠ O; omega)).trans HX.out)
       have O2 := hI ((Only.refl [O] w).setCell (p := ⟨O, 0, none⟩) (by simp) (.bool true))
       go_wp2_with fail
       exact hK true _ C2.out F2.out X2.out O2.out (fun h => nomatch h)
      ·have q3b : (a == fc.en) = false := by rw [beq_eq_false_iff_ne]; exact q3
       have Q3 := hI q3
       clear q3
       by_cases q4 : b = fc.en
       ·have q4b : (b == fc.en) = true := by rw [beq_iff_eq]; exact q4
        clear q4
        have C2 := hI (set_blk HC.out 0 (.bool true))
        have F2 := hI ((Below.heap_setCell w ⟨O, 0, none⟩ (.bool true) P (by show P ≠ O; omega)).trans HF.out)
        have X2 := hI ((Below.heap_setCell w ⟨O, 0, none⟩ (.bool true) (P + 1) (by show P + 1 ≠ O; omega)).trans HX.out)
        have O2 := hI ((Only.refl [O] w).setCell (p := ⟨O, 0, none⟩) (by simp) (.bool true))
        go_wp2_with fail
        exact hK true _ C2.out F2.out X2.out O2.out (fun h => nomatch h)
       ·have q4b : (b == fc.en) = false := by rw [beq_eq_false_iff_ne]; exact q4
        have Q4 := hI q4
        clear q4
        by_cases q5 : fc.en ≤ fc.st
        ·skip
         have C2 := hI (set_blk HC.out 0 (.bool true))
         have F2 := hI ((Below.heap_setCell w ⟨O, 0, none⟩ (.bool true) P (by show P ≠ O; omega)).trans HF.out)
         have X2 := hI ((Below.heap_setCell w ⟨O, 0, none⟩ (.bool true) (P + 1) (by show P + 1 ≠ O; omega)).trans HX.out)
         have O2 := hI ((Only.refl [O] w).setCell (p := ⟨O, 0, none⟩) (by simp) (.bool true))
         go_wp2_with fail
         exact hK true _ C2.out F2.out X2.out O2.out (fun h => nomatch h)
        ·have q5' : fc.st < fc.en := by omega
         have Q5 := hI q5'
         have C2 := hI (set_blk HC.out 0 (.bool false))
         have F2 := hI ((Below.heap_setCell w ⟨O, 0, none⟩ (.bool false) P (by show P ≠ O; omega)).trans HF.out)
         have X2 := hI ((Below.heap_setCell w ⟨O, 0, none⟩ (.bool false) (P + 1) (by show P + 1 ≠ O; omega)).trans HX.out)
         have O2 := hI ((Only.refl [O] w).setCell (p := ⟨O, 0, none⟩) (by simp) (.bool false))
         go_wp2_with fail
         exact hK false _ C2.out F2.out X2.out O2.out (fun _ => ⟨(by first | rfl | trivial), (by first | rfl | trivial), Q1.out, Q2.out, fun _ => ⟨Q3.out, Q4.out, Q5.out⟩⟩)
theorem segG4 (w : World) (O P : Nat) (fc : KCo) (x : S36) (PA CA A B : Option Addr) (pac cac c c2 : Nat) (o1 : Bool) (hne : O < P) (w0 : World) (f : ByteArray → Option ByteArray) (hb0 : Below w0.heap.size w0 w) (hx : k75.C w0 A x.f1.length x.f1) (hxo : AllC okC x) (hTab : TabOk f) (hst : 0 ≤ fc.st ∧ 0 ≤ fc.en)
  (hC : w.heap[O]? = some (.cells #[.bool o1] 85)) (hF : w.heap[P]? = some (.cells #[.string fc.name, .bool fc.absent, .bool fc.has, .bool fc.hasEnd, .int .i64 fc.st, .int .i64 fc.en, .slice PA fc.props.length pac, .slice CA fc.comps.length cac] 42)) (hX : w.heap[P + 1]? = some (.cells #[.string x.f0, .slice A x.f1.length c, .slice B x.f2.length c2] 36))
  (K : Act → World → Prop) (Q : Exit → Act → World → Prop)
  (hK : ∀ (o2 : Bool) (vt : Bool) (w' : World), w'.heap[O]? = some (.cells #[.bool o2] 85) → w'.heap[P]? = some (.cells #[.string fc.name, .bool fc.absent, .bool fc.has, .bool fc.hasEnd, .int .i64 fc.st, .int .i64 fc.en, .slice PA fc.props.length pac, .slice CA fc.comps.length cac] 42) → w'.heap[P + 1]? = some (.cells #[.string x.f0, .slice A x.f1.length c, .slice B x.f2.length c2] 36) → Only [O] w w' → (o2 = false → o1 = false ∧ TimeOk f fc x ∧ vt = timeV fc.has fc.hasEnd fc.st fc.en x) → ∀ {y8 y9 y10 y34 y35 y36 y37 y38 y39 y40 y41 y42 y43 y44 y45 y46 y47 y48 y49 y50 y51 y52 y53 y54 y55 y56 y57 y58 y59 y60 y61 y62 y63 y64 y65 y66 y67 y68 y69 y70 y71 y72 y73 y74 y75 y76 y77 y78 y79 y80 y81 y82 y83 y84 y85 y86 y87 y88 y89 y90 y91 y92 y93 y94 y95 y96 y97 y98 y99 y100 y101 y102 y103 y104 y105 y106 y107 y108 y109 y110 y111 y112 y113 : Value}, K ⟨#[.pointer (some ⟨O, 0, none⟩), u1, u2, u3, .pointer (some ⟨P, 0, none⟩), .pointer (some ⟨P + 1, 0, none⟩), u6, .bool vt, y8, y9, y10, u11, u12, u13, u14, u15, u16, u17, u18, u19, u20, u21, u22, u23, u24, u25, u26, u27, u28, u29, u30, u31, u32, u33, y34, y35, y36, y37, y38, y39, y40, y41, y42, y43, y44, y45, y46, y47, y48, y49, y50, y51, y52, y53, y54, y55, y56, y57, y58, y59, y60, y61, y62, y63, y64, y65, y66, y67, y68, y69, y70, y71, y72, y73, y74, y75, y76, y77, y78, y79, y80, y81, y82, y83, y84, y85, y86, y87, y88, y89, y90, y91, y92, y93, y94, y95, y96, y97, y98, y99, y100, y101, y102, y103, y104, y105, y106, y107, y108, y109, y110, y111, y112, y113, u114, u115, u116, u117, u118, u119, u120, u121, u122, u123, u124, u125, u126, u127, u128, u129, u130, u131, u132, u133, u134, u135, u136, u137, u138, u139, u140, u141, u142, u143, u144, u145, u146, u147, u148, u149, u150, u151, u152, u153, u154, u155, u156, u157, u158, u159, u160, u161, u162, u163, u164, u165, u166, u167, u168, u169, u170, u171, u172, u173, u174, u175, u176, u177, u178, u179, u180, u181, u182, u183, u184, u185, u186, u187, u188, u189, u190, u191, u192, u193], []⟩ w') :
  Code.wp Tryz.prog codeG4 (Exit.then K Q) ⟨#[.pointer (some ⟨O, 0, none⟩), u1, u2, u3, .pointer (some ⟨P, 0, none⟩), .pointer (some ⟨P + 1, 0, none⟩), u6, .bool true, u8, u9, u10, u11, u12, u13, u14, u15, u16, u17, u18, u19, u20, u21, u22, u23, u24, u25, u26, u27, u28, u29, u30, u31, u32, u33, u34, u35, u36, u37, u38, u39, u40, u41, u42, u43, u44, u45, u46, u47, u48, u49, u50, u51, u52, u53, u54, u55, u56, u57, u58, u59, u60, u61, u62, u63, u64, u65, u66, u67, u68, u69, u70, u71, u72, u73, u74, u75, u76, u77, u78, u79, u80, u81, u82, u83, u84, u85, u86, u87, u88, u89, u90, u91, u92, u93, u94, u95, u96, u97, u98, u99, u100, u101, u102, u103, u104, u105, u106, u107, u108, u109, u110, u111, u112, u113, u114, u115, u116, u117, u118, u119, u120, u121, u122, u123, u124, u125, u126, u127, u128, u129, u130, u131, u132, u133, u134, u135, u136, u137, u138, u139, u140, u141, u142, u143, u144, u145, u146, u147, u148, u149, u150, u151, u152, u153, u154, u155, u156, u157, u158, u159, u160, u161, u162, u163, u164, u165, u166, u167, u168, u169, u170, u171, u172, u173, u174, u175, u176, u177, u178, u179, u180, u181, u182, u183, u184, u185, u186, u187, u188, u189, u190, u191, u192, u193], []⟩ w := by
 conv => arg 2; whnf
 obtain ⟨hs, hhs⟩ : ∃ b, fc.has = b := ⟨_, rfl⟩
 have f2 : w.cell? ⟨P, 2, none⟩ = some (.bool hs) := by rw [← hhs]; exact (cell_blk hF 2).trans rfl
 have HHS := hI hhs
 have HC := hI hC
 have HF := hI hF
 have HX := hI hX
 clear hC hF hX hhs
 cases hs with
 | false =>
  go_wp2_with fail
  exact hK o1 true _ HC.out HF.out HX.out (Only.refl _ _) (fun h => ⟨h, (fun hh => by rw [HHS.out] at hh; cases hh), by unfold timeV; rw [HHS.out]; rfl⟩)
 | true =>
  have x0 : w.cell? ⟨P + 1, 0, none⟩ = some (.string x.f0) := (cell_blk HX.out 0).trans rfl
  have x1 : w.cell? ⟨P + 1, 1, none⟩ = some (.slice A x.f1.length c) := (cell_blk HX.out 1).trans rfl
  have x2 : w.cell? ⟨P + 1, 2, none⟩ = some (.slice B x.f2.length c2) := (cell_blk HX.out 2).trans rfl
  go_wp2_with fail
  refine (kSpan w0 w f x A B c c2 hb0 hx hxo.here hTab).mono ?_
  rintro _ wj ⟨a, b, ok, rfl, hb, hks⟩
  have hC := below_blk hb HC.out
  have hF := below_blk hb HF.out
  have hX := below_blk hb HX.out
  have HOb := hI (Only.of_below (S := [O]) hb)
  have HKS := hI hks
  clear hb hks x0 x1 x2 HC HF HX f2
  go_upto_region 6 with (fail)
  refine segR6 wj O P fc x PA CA A B pac cac c c2 a b ok o1 hne hC hF hX _ _ ?_
  intro o2 w6 hC hF hX hO6 hR6
  intros
  have HO6 := hI (HOb.out.trans hO6)
  have HC := hI hC
  have HX := hI hX
  have HR6 := hI hR6
  clear hC hX hO6 hR6 HOb
  go_upto_region 7 with (fail)
  refine segR7 w6 O P fc x PA CA A B pac cac c c2 a b _ hF rfl _ _ ?_
  intros
  have HFF := hI hF
  clear hF
  have HH : Hid (o2 = false → o1 = false ∧ TimeOk f fc x ∧ ((decide (fc.st < b) || (decide (a = b) && decide (fc.st ≤ a))) && (!fc.hasEnd || decide (a < fc.en))) = timeV fc.has fc.hasEnd fc.st fc.en x) := hI (fun h => by
   obtain ⟨h1, h2, h3, h4, h5⟩ := HR6.out h
   obtain ⟨k1, k2, k3, k4, k5, k6⟩ := HKS.out h2
   refine ⟨h1, fun _ => ⟨k1, k2, by rw [k5]; exact k3, by rw [k5]; exact k4⟩, ?_⟩
   rw [HHS.out, timeV_of k5 k6 hst.1 hst.2 h3 h4 h5])
  clear HR6 HKS
  generalize hv : ((decide (fc.st < b) || (decide (a = b) && decide (fc.st ≤ a))) && (!fc.hasEnd || decide (a < fc.en))) = v at HH ⊢
  clear hv
  go_wp2_with fail
  exact hK o2 v _ HC.out HFF.out HX.out HO6.out HH.out
theorem segG8 (w : World) (O P : Nat) (fc : KCo) (x : S36) (PA CA A B : Option Addr) (pac cac c c2 : Nat) (o1 v : Bool) (hne : O < P) (w0 : World) (f : ByteArray → Option ByteArray) (hb0 : Below w0.heap.size w0 w) (hO0 : w0.heap.size ≤ O) (hPA : kPr.C w0 PA fc.props.length fc.props) (hx : k75.C w0 A x.f1.length x.f1) (hKO : KOk fc) (hxo : okC x) (hTab : TabOk f)
  (hC : w.heap[O]? = some (.cells #[.bool o1] 85)) (hF : w.heap[P]? = some (.cells #[.string fc.name, .bool fc.absent, .bool fc.has, .bool fc.hasEnd, .int .i64 fc.st, .int .i64 fc.en, .slice PA fc.props.length pac, .slice CA fc.comps.length cac] 42)) (hX : w.heap[P + 1]? = some (.cells #[.string x.f0, .slice A x.f1.length c, .slice B x.f2.length c2] 36))
  (K : Act → World → Prop) (Q : Exit → Act → World → Prop)
  (hK : ∀ (o2 : Bool) (v2 : Bool) (w' : World), w'.heap[O]? = some (.cells #[.bool o2] 85) → w'.heap[P]? = some (.cells #[.string fc.name, .bool fc.absent, .bool fc.has, .bool fc.hasEnd, .int .i64 fc.st, .int .i64 fc.en, .slice PA fc.props.length pac, .slice CA fc.comps.length cac] 42) → w'.heap[P + 1]? = some (.cells #[.string x.f0, .slice A x.f1.length c, .slice B x.f2.length c2] 36) → Only [O] w w' → (o2 = false → o1 = false ∧ (∀ p ∈ fc.props, PropOk f p x.f1) ∧ v2 = (v && fc.props.all fun p => propV p x.f1)) → ∀ {y12 y114 y115 y116 y117 y118 y119 y120 y121 y122 y123 y124 y125 y126 y127 y128 : Value}, K ⟨#[.pointer (some ⟨O, 0, none⟩), u1, u2, u3, .pointer (some ⟨P, 0, none⟩), .pointer (some ⟨P + 1, 0, none⟩), u6, .bool v2, u8, u9, u10, u11, y12, u13, u14, u15, u16, u17, u18, u19, u20, u21, u22, u23, u24, u25, u26, u27, u28, u29, u30, u31, u32, u33, u34, u35, u36, u37, u38, u39, u40, u41, u42, u43, u44, u45, u46, u47, u48, u49, u50, u51, u52, u53, u54, u55, u56, u57, u58, u59, u60, u61, u62, u63, u64, u65, u66, u67, u68, u69, u70, u71, u72, u73, u74, u75, u76, u77, u78, u79, u80, u81, u82, u83, u84, u85, u86, u87, u88, u89, u90, u91, u92, u93, u94, u95, u96, u97, u98, u99, u100, u101, u102, u103, u104, u105, u106, u107, u108, u109, u110, u111, u112, u113, y114, y115, y116, y117, y118, y119, y120, y121, y122, y123, y124, y125, y126, y127, y128, u129, u130, u131, u132, u133, u134, u135, u136, u137, u138, u139, u140, u141, u142, u143, u144, u145, u146, u147, u148, u149, u150, u151, u152, u153, u154, u155, u156, u157, u158, u159, u160, u161, u162, u163, u164, u165, u166, u167, u168, u169, u170, u171, u172, u173, u174, u175, u176, u177, u178, u179, u180, u181, u182, u183, u184, u185, u186, u187, u188, u189, u190, u191, u192, u193], []⟩ w') :
  Code.wp Tryz.prog codeG8 (Exit.then K Q) ⟨#[.pointer (some ⟨O, 0, none⟩), u1, u2, u3, .pointer (some ⟨P, 0, none⟩), .pointer (some ⟨P + 1, 0, none⟩), u6, .bool v, u8, u9, u10, u11, u12, u13, u14, u15, u16, u17, u18, u19, u20, u21, u22, u23, u24, u25, u26, u27, u28, u29, u30, u31, u32, u33, u34, u35, u36, u37, u38, u39, u40, u41, u42, u43, u44, u45, u46, u47, u48, u49, u50, u51, u52, u53, u54, u55, u56, u57, u58, u59, u60, u61, u62, u63, u64, u65, u66, u67, u68, u69, u70, u71, u72, u73, u74, u75, u76, u77, u78, u79, u80, u81, u82, u83, u84, u85, u86, u87, u88, u89, u90, u91, u92, u93, u94, u95, u96, u97, u98, u99, u100, u101, u102, u103, u104, u105, u106, u107, u108, u109, u110, u111, u112, u113, u114, u115, u116, u117, u118, u119, u120, u121, u122, u123, u124, u125, u126, u127, u128, u129, u130, u131, u132, u133, u134, u135, u136, u137, u138, u139, u140, u141, u142, u143, u144, u145, u146, u147, u148, u149, u150, u151, u152, u153, u154, u155, u156, u157, u158, u159, u160, u161, u162, u163, u164, u165, u166, u167, u168, u169, u170, u171, u172, u173, u174, u175, u176, u177, u178, u179, u180, u181, u182, u183, u184, u185, u186, u187, u188, u189, u190, u191, u192, u193], []⟩ w := by
 conv => arg 2; whnf
 have f6 : w.cell? ⟨P, 6, none⟩ = some (.slice PA fc.props.length pac) := (cell_blk hF 6).trans rfl
 have hlp := hPA.2.1
 have HC := hI hC
 have HF := hI hF
 have HX := hI hX
 have hz0 := hb0.size
 clear hC hF hX
 go_wp2_with fail
 clear f6
 go_loopw [7, 117] (fun s7 i wr => ∃ (k : Nat) (b o' : Bool), k ≤ fc.props.length ∧ i = .int .i64 k ∧ s7 = .bool b ∧ Hid (wr.heap[O]? = some (.cells #[.bool o'] 85)) ∧ Hid (wr.heap[P]? = some (.cells #[.string fc.name, .bool fc.absent, .bool fc.has, .bool fc.hasEnd, .int .i64 fc.st, .int .i64 fc.en, .slice PA fc.props.length pac, .slice CA fc.comps.length cac] 42)) ∧ Hid (wr.heap[P + 1]? = some (.cells #[.string x.f0, .slice A x.f1.length c, .slice B x.f2.length c2] 36)) ∧ Hid (Only [O] w wr) ∧ Hid (o' = false → o1 = false ∧ (∀ p ∈ fc.props.take k, PropOk f p x.f1) ∧ b = (v && (fc.props.take k).all fun p => propV p x.f1))) (fun _ i _ => fc.props.length - (RowKit.intOf i).toNat)
 case atStart => exact ⟨0, v, o1, Nat.zero_le _, rfl, rfl, HC, HF, HX, hI (Only.refl _ _), hI (fun h => ⟨h, (fun p hp => by simp at hp), by simp⟩)⟩
 case round =>
  clear HC HF HX
  obtain ⟨k, b, o', hk, rfl, rfl, HC, HF, HX, HO, HB⟩ := hrel
  obtain ⟨wo, rfl⟩ : ∃ wo : World, wo = wr := ⟨_, rfl⟩
  by_cases hlt : k < fc.props.length
  ·obtain ⟨p, hpe⟩ : ∃ p, fc.props[k]? = some p := ⟨_, List.getElem?_eq_getElem hlt⟩
   have hpm := List.mem_of_getElem? hpe
   have hpo : KpOk p := by cases hKO with | mk _ a b c d e f g' => exact f p hpm
   obtain ⟨ad, q, V, cv, rfl, hT, hlv, hrv, g0, g1, g2, g3, g4, g5, g6, g7⟩ := at_kPr hPA k p hpe
   have hbw : Below w0.heap.size w0 wo := hb0.trans (HO.out.below hz0 (by intro y hy; simp at hy; omega))
   have g0 := pw_cell_below hbw g0
   have g1 := pw_cell_below hbw g1
   have g2 := pw_cell_below hbw g2
   have g3 := pw_cell_below hbw g3
   have g4 := pw_cell_below hbw g4
   have g5 := pw_cell_below hbw g5
   have g6 := pw_cell_below hbw g6
   have g7 := pw_cell_below hbw g7
   have HPE := hI hpe
   have HTR := hI (And.intro hT hrv)
   have hlp2 := hrv.2.1
   clear hpe hpm hT hrv
   go_upto_region 11 with (fail)
   have hC := old_blk HC.out (.cells #[.string p.name, .bool p.absent, .bool p.has, .bool p.hasEnd, .int .i64 p.st, .int .i64 p.en, .pointer q, .slice V p.params.length cv] 147)
   have hF := old_blk HF.out (.cells #[.string p.name, .bool p.absent, .bool p.has, .bool p.hasEnd, .int .i64 p.st, .int .i64 p.en, .pointer q, .slice V p.params.length cv] 147)
   have hX := old_blk HX.out (.cells #[.string p.name, .bool p.absent, .bool p.has, .bool p.hasEnd, .int .i64 p.st, .int .i64 p.en, .pointer q, .slice V p.params.length cv] 147)
   have hp1 := new_blk wo (.cells #[.string p.name, .bool p.absent, .bool p.has, .bool p.hasEnd, .int .i64 p.st, .int .i64 p.en, .pointer q, .slice V p.params.length cv] 147)
   have hO1 := HO.out.alloc (.cells #[.string p.name, .bool p.absent, .bool p.has, .bool p.hasEnd, .int .i64 p.st, .int .i64 p.en, .pointer q, .slice V p.params.length cv] 147)
   have hbw1 := hbw.alloc hbw.size (.cells #[.string p.name, .bool p.absent, .bool p.has, .bool p.hasEnd, .int .i64 p.st, .int .i64 p.en, .pointer q, .slice V p.params.length cv] 147)
   generalize hwx : wo.alloc _ = wx at hC hF hX hp1 hO1 hbw1 ⊢
   obtain ⟨L, hL⟩ : ∃ L, L = wo.heap.size := ⟨_, rfl⟩
   rw [← hL] at hp1 ⊢
   clear hwx hL g0 g1 g2 g3 g4 g5 g6 g7 HC HF HX HO hbw
   have e0 : wx.cell? ⟨L, 0, none⟩ = some (.string p.name) := (cell_blk hp1 0).trans rfl
   have e1 : wx.cell? ⟨L, 1, none⟩ = some (.bool p.absent) := (cell_blk hp1 1).trans rfl
   have e2 : wx.cell? ⟨L, 2, none⟩ = some (.bool p.has) := (cell_blk hp1 2).trans rfl
   have e3 : wx.cell? ⟨L, 3, none⟩ = some (.bool p.hasEnd) := (cell_blk hp1 3).trans rfl
   have e4 : wx.cell? ⟨L, 4, none⟩ = some (.int .i64 p.st) := (cell_blk hp1 4).trans rfl
   have e5 : wx.cell? ⟨L, 5, none⟩ = some (.int .i64 p.en) := (cell_blk hp1 5).trans rfl
   have e6 : wx.cell? ⟨L, 6, none⟩ = some (.pointer q) := (cell_blk hp1 6).trans rfl
   have e7 : wx.cell? ⟨L, 7, none⟩ = some (.slice V p.params.length cv) := (cell_blk hp1 7).trans rfl
   have x0 : wx.cell? ⟨P + 1, 0, none⟩ = some (.string x.f0) := (cell_blk hX 0).trans rfl
   have x1 : wx.cell? ⟨P + 1, 1, none⟩ = some (.slice A x.f1.length c) := (cell_blk hX 1).trans rfl
   have x2 : wx.cell? ⟨P + 1, 2, none⟩ = some (.slice B x.f2.length c2) := (cell_blk hX 2).trans rfl
   have HC := hI hC
   have HF := hI hF
   have HX := hI hX
   have HO := hI hO1
   have HW := hI hbw1
   clear hC hF hX hO1 hbw1 hp1
   go_wp2_with fail
   with_reducible refine (seenProp w0 wx O o' f p q V cv x A B c c2 HW.out hO0 HC.out HTR.out.1 HTR.out.2 hx hpo hxo hTab).mono ?_
   rintro _ w5 ⟨o5, v5, rfl, hC5, hO5, hR5⟩
   have hnP : P ∉ [O] := by simp; omega
   have hnX : P + 1 ∉ [O] := by simp; omega
   have HF := hI (hO5.blk HF.out hnP)
   have HX := hI (hO5.blk HX.out hnX)
   have HC := hI hC5
   have HO := hI (HO.out.trans hO5)
   have HB5 : Hid (∀ u, u = (v5 && b) → o5 = false → o1 = false ∧ (∀ p ∈ fc.props.take (k + 1), PropOk f p x.f1) ∧ u = (v && (fc.props.take (k + 1)).all fun p => propV p x.f1)) := hI (fun u hu h => by
    obtain ⟨h1, h2, h3⟩ := hR5 h
    obtain ⟨h4, h5, h6⟩ := HB.out h1
    refine ⟨h4, ?_, ?_⟩
    ·rw [take_snoc' _ _ _ HPE.out]
     intro p' hp'
     rcases List.mem_append.1 hp' with h | h
     ·exact h5 p' h
     ·rw [List.mem_singleton.1 h]; exact h2
    ·rw [all_sn _ _ _ _ HPE.out, hu, h3, h6]
     cases v <;> cases propV p x.f1 <;> simp)
   clear hC5 hO5 hR5 HB HW e0 e1 e2 e3 e4 e5 e6 e7 x0 x1 x2 hnP hnX
   cases v5 with
   | false =>
    go_wp2
    exact ⟨⟨k + 1, false, o5, by omega, by go_num, rfl, HC, HF, HX, HO, hI (HB5.out false rfl)⟩, by simp [RowKit.intOf]; omega⟩
   | true =>
    go_wp2
    exact ⟨⟨k + 1, b, o5, by omega, by go_num, rfl, HC, HF, HX, HO, hI (HB5.out b rfl)⟩, by simp [RowKit.intOf]; omega⟩
  ·obtain rfl : k = fc.props.length := by omega
   have HB5 : Hid (o' = false → o1 = false ∧ (∀ p ∈ fc.props, PropOk f p x.f1) ∧ b = (v && fc.props.all fun p => propV p x.f1)) := hI (by have := HB.out; rwa [List.take_length] at this)
   clear HB
   go_wp2_with fail
   exact hK o' b _ HC.out HF.out HX.out HO.out HB5.out
theorem segK (w : World) (O P : Nat) (fc : KCo) (x : S36) (PA CA A B : Option Addr) (pac cac c c2 : Nat) (g : KCo) (GA GB : Option Addr) (gac gbc G : Nat) (o1 : Bool) (hne : O < P) (hneG : O < G) (w0 : World) (f : ByteArray → Option ByteArray) (hb0 : Below w0.heap.size w0 w) (hO0 : w0.heap.size ≤ O) (hxk : k36.C w0 B x.f2.length x.f2) (ih : ∀ (w1 : World) (o : Bool) (y : S36) (A' B' : Option Addr) (d d2 : Nat), Below w0.heap.size w0 w1 → w1.heap[O]? = some (.cells #[.bool o] 85) → y ∈ x.f2 → k75.C w0 A' y.f1.length y.f1 → k36.C w0 B' y.f2.length y.f2 → Calls Tryz.prog 37 #[.pointer (some ⟨O, 0, none⟩), .agg #[.string g.name, .bool false, .bool g.has, .bool g.hasEnd, .int .i64 g.st, .int .i64 g.en, .slice GA g.props.length gac, .slice GB g.comps.length gbc], .agg #[.string y.f0, .slice A' y.f1.length d, .slice B' y.f2.length d2]] w1 (SeenPost w1 O o (fun v => CompOk f g y ∧ v = compV g y)))
  (hC : w.heap[O]? = some (.cells #[.bool o1] 85)) (hF : w.heap[P]? = some (.cells #[.string fc.name, .bool fc.absent, .bool fc.has, .bool fc.hasEnd, .int .i64 fc.st, .int .i64 fc.en, .slice PA fc.props.length pac, .slice CA fc.comps.length cac] 42)) (hX : w.heap[P + 1]? = some (.cells #[.string x.f0, .slice A x.f1.length c, .slice B x.f2.length c2] 36)) (hG : w.heap[G]? = some (.cells #[.string g.name, .bool g.absent, .bool g.has, .bool g.hasEnd, .int .i64 g.st, .int .i64 g.en, .slice GA g.props.length gac, .slice GB g.comps.length gbc] 42))
  (K : Act → World → Prop) (Q : Exit → Act → World → Prop)
  (hK : ∀ (o2 : Bool) (any there : Bool) (w' : World), w'.heap[O]? = some (.cells #[.bool o2] 85) → w'.heap[P]? = some (.cells #[.string fc.name, .bool fc.absent, .bool fc.has, .bool fc.hasEnd, .int .i64 fc.st, .int .i64 fc.en, .slice PA fc.props.length pac, .slice CA fc.comps.length cac] 42) → w'.heap[P + 1]? = some (.cells #[.string x.f0, .slice A x.f1.length c, .slice B x.f2.length c2] 36) → Only [O] w w' → (there = (x.f2.any fun y => decide (y.f0 = g.name)) ∧ (o2 = false → o1 = false ∧ any = (x.f2.any fun y => decide (y.f0 = g.name) && compV g y) ∧ ∀ y ∈ x.f2, y.f0 = g.name → CompOk f g y)) → ∀ {y18 y19 y139 y140 y141 y142 y143 y144 y145 y146 y147 y148 y149 y150 y151 y152 y153 y154 y155 y156 y157 : Value}, K ⟨#[.pointer (some ⟨O, 0, none⟩), u1, u2, u3, .pointer (some ⟨P, 0, none⟩), .pointer (some ⟨P + 1, 0, none⟩), u6, u7, u8, u9, u10, u11, u12, u13, .pointer (some ⟨G, 0, none⟩), .bool any, .bool there, u17, y18, y19, u20, u21, u22, u23, u24, u25, u26, u27, u28, u29, u30, u31, u32, u33, u34, u35, u36, u37, u38, u39, u40, u41, u42, u43, u44, u45, u46, u47, u48, u49, u50, u51, u52, u53, u54, u55, u56, u57, u58, u59, u60, u61, u62, u63, u64, u65, u66, u67, u68, u69, u70, u71, u72, u73, u74, u75, u76, u77, u78, u79, u80, u81, u82, u83, u84, u85, u86, u87, u88, u89, u90, u91, u92, u93, u94, u95, u96, u97, u98, u99, u100, u101, u102, u103, u104, u105, u106, u107, u108, u109, u110, u111, u112, u113, u114, u115, u116, u117, u118, u119, u120, u121, u122, u123, u124, u125, u126, u127, u128, u129, u130, u131, u132, u133, u134, u135, u136, .slice B x.f2.length c2, .int .i64 x.f2.length, y139, y140, y141, y142, y143, y144, y145, y146, y147, y148, y149, y150, y151, y152, y153, y154, y155, y156, y157, u158, u159, u160, u161, u162, u163, u164, u165, u166, u167, u168, u169, u170, u171, u172, u173, u174, u175, u176, u177, u178, u179, u180, u181, u182, u183, u184, u185, u186, u187, u188, u189, u190, u191, u192, u193], []⟩ w') :
  Code.wp Tryz.prog codeK (Exit.then K Q) ⟨#[.pointer (some ⟨O, 0, none⟩), u1, u2, u3, .pointer (some ⟨P, 0, none⟩), .pointer (some ⟨P + 1, 0, none⟩), u6, u7, u8, u9, u10, u11, u12, u13, .pointer (some ⟨G, 0, none⟩), .bool false, .bool false, u17, u18, u19, u20, u21, u22, u23, u24, u25, u26, u27, u28, u29, u30, u31, u32, u33, u34, u35, u36, u37, u38, u39, u40, u41, u42, u43, u44, u45, u46, u47, u48, u49, u50, u51, u52, u53, u54, u55, u56, u57, u58, u59, u60, u61, u62, u63, u64, u65, u66, u67, u68, u69, u70, u71, u72, u73, u74, u75, u76, u77, u78, u79, u80, u81, u82, u83, u84, u85, u86, u87, u88, u89, u90, u91, u92, u93, u94, u95, u96, u97, u98, u99, u100, u101, u102, u103, u104, u105, u106, u107, u108, u109, u110, u111, u112, u113, u114, u115, u116, u117, u118, u119, u120, u121, u122, u123, u124, u125, u126, u127, u128, u129, u130, u131, u132, u133, u134, u135, u136, .slice B x.f2.length c2, .int .i64 x.f2.length, .int .i64 0, u140, u141, u142, u143, u144, u145, u146, u147, u148, u149, u150, u151, u152, u153, u154, u155, u156, u157, u158, u159, u160, u161, u162, u163, u164, u165, u166, u167, u168, u169, u170, u171, u172, u173, u174, u175, u176, u177, u178, u179, u180, u181, u182, u183, u184, u185, u186, u187, u188, u189, u190, u191, u192, u193], []⟩ w := by
 conv => arg 2; whnf
 have hlk := hxk.2.1
 have HC := hI hC
 have HF := hI hF
 have HX := hI hX
 have HG := hI hG
 have HI := hI ih
 have hz0 := hb0.size
 clear hC hF hX hG ih
 go_wp2_with fail
 go_loopw [15, 16, 139] (fun s15 s16 i wr => ∃ (k : Nat) (b t o' : Bool), k ≤ x.f2.length ∧ i = .int .i64 k ∧ s15 = .bool b ∧ s16 = .bool t ∧ Hid (wr.heap[O]? = some (.cells #[.bool o'] 85)) ∧ Hid (Only [O] w wr) ∧ Hid (t = (x.f2.take k).any fun y => decide (y.f0 = g.name)) ∧ Hid (o' = false → o1 = false ∧ b = ((x.f2.take k).any fun y => decide (y.f0 = g.name) && compV g y) ∧ ∀ y ∈ x.f2.take k, y.f0 = g.name → CompOk f g y)) (fun _ _ i _ => x.f2.length - (RowKit.intOf i).toNat)
 case atStart => exact ⟨0, false, false, o1, Nat.zero_le _, rfl, rfl, rfl, HC, hI (Only.refl _ _), hI (by simp), hI (fun h => ⟨h, by simp, fun p hp => by simp at hp⟩)⟩
 case round =>
  have HF0 := HF
  have HX0 := HX
  have HG0 := HG
  clear HC HF HX HG
  obtain ⟨k, b, t, o', hk, rfl, rfl, rfl, HC, HO, HT, HB⟩ := hrel
  have HF := hI (HO.out.blk HF0.out (by simp; omega))
  have HX := hI (HO.out.blk HX0.out (by simp; omega))
  have HG := hI (HO.out.blk HG0.out (by simp; omega))
  obtain ⟨wo, rfl⟩ : ∃ wo : World, wo = wr := ⟨_, rfl⟩
  by_cases hlt : k < x.f2.length
  ·obtain ⟨y, hye⟩ : ∃ y, x.f2[k]? = some y := ⟨_, List.getElem?_eq_getElem hlt⟩
   have hym := List.mem_of_getElem? hye
   obtain ⟨ad, V, cv, V2, cv2, rfl, hlv, hrv, hlv2, hrv2, g0, g1, g2⟩ := at36 hxk k y hye
   have hbw : Below w0.heap.size w0 wo := hb0.trans (HO.out.below hz0 (by intro y hy; simp at hy; omega))
   have g0 := pw_cell_below hbw g0
   have g1 := pw_cell_below hbw g1
   have g2 := pw_cell_below hbw g2
   have HYE := hI hye
   have HYM := hI hym
   have HRV := hI (And.intro hrv hrv2)
   clear hye hym hrv hrv2
   go_upto_region 20 with (fail)
   have hC := old_blk HC.out (.cells #[.string y.f0, .slice V y.f1.length cv, .slice V2 y.f2.length cv2] 36)
   have hG := old_blk HG.out (.cells #[.string y.f0, .slice V y.f1.length cv, .slice V2 y.f2.length cv2] 36)
   have hy1 := new_blk wo (.cells #[.string y.f0, .slice V y.f1.length cv, .slice V2 y.f2.length cv2] 36)
   have hO1 := HO.out.alloc (.cells #[.string y.f0, .slice V y.f1.length cv, .slice V2 y.f2.length cv2] 36)
   have hbw1 := hbw.alloc hbw.size (.cells #[.string y.f0, .slice V y.f1.length cv, .slice V2 y.f2.length cv2] 36)
   generalize hwx : wo.alloc _ = wx at hC hG hy1 hO1 hbw1 ⊢
   have hlL := lt_blk hy1
   obtain ⟨L, hL⟩ : ∃ L, L = wo.heap.size := ⟨_, rfl⟩
   rw [← hL] at hy1 hlL ⊢
   have hOL : O < L := by have := lt_blk HC.out; omega
   clear hwx hL g0 g1 g2 HC HF HX HG HO hbw
   have l0 : wx.cell? ⟨L, 0, none⟩ = some (.string y.f0) := (cell_blk hy1 0).trans rfl
   have n0 : wx.cell? ⟨G, 0, none⟩ = some (.string g.name) := (cell_blk hG 0).trans rfl
   have HC := hI hC
   have HG := hI hG
   have HY := hI hy1
   have HO := hI hO1
   have HW := hI hbw1
   clear hC hG hy1 hO1 hbw1
   by_cases hn : y.f0 = g.name
   ·have hnb : (y.f0.toList == g.name.toList) = true := by rw [hn]; simp
    have HN := hI hn
    clear hn
    have n0 : wx.cell? ⟨G, 0, none⟩ = some (.string g.name) := (cell_blk HG.out 0).trans rfl
    have n1 : wx.cell? ⟨G, 1, none⟩ = some (.bool g.absent) := (cell_blk HG.out 1).trans rfl
    have n2 : wx.cell? ⟨G, 2, none⟩ = some (.bool g.has) := (cell_blk HG.out 2).trans rfl
    have n3 : wx.cell? ⟨G, 3, none⟩ = some (.bool g.hasEnd) := (cell_blk HG.out 3).trans rfl
    have n4 : wx.cell? ⟨G, 4, none⟩ = some (.int .i64 g.st) := (cell_blk HG.out 4).trans rfl
    have n5 : wx.cell? ⟨G, 5, none⟩ = some (.int .i64 g.en) := (cell_blk HG.out 5).trans rfl
    have n6 : wx.cell? ⟨G, 6, none⟩ = some (.slice GA g.props.length gac) := (cell_blk HG.out 6).trans rfl
    have n7 : wx.cell? ⟨G, 7, none⟩ = some (.slice GB g.comps.length gbc) := (cell_blk HG.out 7).trans rfl
    go_upto_region 24 with (fail)
    have hO2 := HO.out.alloc (.cells #[.string g.name, .bool false, .bool g.has, .bool g.hasEnd, .int .i64 g.st, .int .i64 g.en, .slice GA g.props.length gac, .slice GB g.comps.length gbc] 42)
    have hbw2 := HW.out.alloc HW.out.size (.cells #[.string g.name, .bool false, .bool g.has, .bool g.hasEnd, .int .i64 g.st, .int .i64 g.en, .slice GA g.props.length gac, .slice GB g.comps.length gbc] 42)
    have hH := new_blk wx (.cells #[.string g.name, .bool false, .bool g.has, .bool g.hasEnd, .int .i64 g.st, .int .i64 g.en, .slice GA g.props.length gac, .slice GB g.comps.length gbc] 42)
    have hC := old_blk HC.out (.cells #[.string g.name, .bool false, .bool g.has, .bool g.hasEnd, .int .i64 g.st, .int .i64 g.en, .slice GA g.props.length gac, .slice GB g.comps.length gbc] 42)
    have hY := old_blk HY.out (.cells #[.string g.name, .bool false, .bool g.has, .bool g.hasEnd, .int .i64 g.st, .int .i64 g.en, .slice GA g.props.length gac, .slice GB g.comps.length gbc] 42)
    generalize hw2 : World.alloc _ _ = w2 at hO2 hbw2 hH hC hY ⊢
    obtain ⟨M, hM⟩ : ∃ M, M = wx.heap.size := ⟨_, rfl⟩
    rw [← hM] at hH ⊢
    clear hw2 hM l0 n0 n1 n2 n3 n4 n5 n6 n7 hnb HC HG HY HO HW
    have e0 : w2.cell? ⟨M, 0, none⟩ = some (.string g.name) := (cell_blk hH 0).trans rfl
    have e1 : w2.cell? ⟨M, 1, none⟩ = some (.bool false) := (cell_blk hH 1).trans rfl
    have e2 : w2.cell? ⟨M, 2, none⟩ = some (.bool g.has) := (cell_blk hH 2).trans rfl
    have e3 : w2.cell? ⟨M, 3, none⟩ = some (.bool g.hasEnd) := (cell_blk hH 3).trans rfl
    have e4 : w2.cell? ⟨M, 4, none⟩ = some (.int .i64 g.st) := (cell_blk hH 4).trans rfl
    have e5 : w2.cell? ⟨M, 5, none⟩ = some (.int .i64 g.en) := (cell_blk hH 5).trans rfl
    have e6 : w2.cell? ⟨M, 6, none⟩ = some (.slice GA g.props.length gac) := (cell_blk hH 6).trans rfl
    have e7 : w2.cell? ⟨M, 7, none⟩ = some (.slice GB g.comps.length gbc) := (cell_blk hH 7).trans rfl
    have l0 : w2.cell? ⟨L, 0, none⟩ = some (.string y.f0) := (cell_blk hY 0).trans rfl
    have l1 : w2.cell? ⟨L, 1, none⟩ = some (.slice V y.f1.length cv) := (cell_blk hY 1).trans rfl
    have l2 : w2.cell? ⟨L, 2, none⟩ = some (.slice V2 y.f2.length cv2) := (cell_blk hY 2).trans rfl
    have HC := hI hC
    have HO := hI hO2
    have HW := hI hbw2
    clear hH hY hC hO2 hbw2
    go_wp2_with fail
    with_reducible refine (HI.out w2 o' y V V2 cv cv2 HW.out HC.out HYM.out HRV.out.1 HRV.out.2).mono ?_
    rintro _ w5 ⟨o5, v5, rfl, hC5, hO5, hR5⟩
    have HC := hI hC5
    have HO := hI (HO.out.trans hO5)
    have HT5 : Hid (true = (x.f2.take (k + 1)).any fun y => decide (y.f0 = g.name)) := hI (by rw [any_sn _ _ _ _ HYE.out, decide_eq_true HN.out]; simp)
    have HB5 : Hid (∀ u, u = (v5 || b) → o5 = false → o1 = false ∧ u = ((x.f2.take (k + 1)).any fun y => decide (y.f0 = g.name) && compV g y) ∧ ∀ y ∈ x.f2.take (k + 1), y.f0 = g.name → CompOk f g y) := hI (fun u hu h => by
     obtain ⟨h1, h2, h3⟩ := hR5 h
     obtain ⟨h4, h5, h6⟩ := HB.out h1
     refine ⟨h4, ?_, ?_⟩
     ·rw [any_sn _ _ _ _ HYE.out, decide_eq_true HN.out, hu, h3, ← h5]
      cases b <;> cases compV g y <;> rfl
     ·rw [take_snoc' _ _ _ HYE.out]
      intro y' hy' hn'
      rcases List.mem_append.1 hy' with h | h
      ·exact h6 y' h hn'
      ·rw [List.mem_singleton.1 h]; exact h2)
    clear hC5 hO5 hR5 HB HT HW e0 e1 e2 e3 e4 e5 e6 e7 l0 l1 l2
    cases v5 with
    | true =>
     go_wp2
     exact ⟨⟨k + 1, true, true, o5, by omega, by go_num, rfl, rfl, HC, HO, HT5, hI (HB5.out true rfl)⟩, by simp [RowKit.intOf]; omega⟩
    | false =>
     go_wp2
     exact ⟨⟨k + 1, b, true, o5, by omega, by go_num, rfl, rfl, HC, HO, HT5, hI (HB5.out b rfl)⟩, by simp [RowKit.intOf]; omega⟩
   ·have hnb : (y.f0.toList == g.name.toList) = false := tl_ne hn
    have HT5 : Hid (t = (x.f2.take (k + 1)).any fun y => decide (y.f0 = g.name)) := hI (by rw [any_sn _ _ _ _ HYE.out, decide_eq_false hn, HT.out]; simp)
    have HB5 : Hid (o' = false → o1 = false ∧ b = ((x.f2.take (k + 1)).any fun y => decide (y.f0 = g.name) && compV g y) ∧ ∀ y ∈ x.f2.take (k + 1), y.f0 = g.name → CompOk f g y) := hI (fun h => by
     obtain ⟨h4, h5, h6⟩ := HB.out h
     refine ⟨h4, ?_, ?_⟩
     ·rw [any_sn _ _ _ _ HYE.out, decide_eq_false hn, h5]
      simp
     ·rw [take_snoc' _ _ _ HYE.out]
      intro y' hy' hn'
      rcases List.mem_append.1 hy' with h | h
      ·exact h6 y' h hn'
      ·rw [List.mem_singleton.1 h] at hn'; exact absurd hn' hn)
    clear HB HT hn
    go_wp2
    exact ⟨⟨k + 1, b, t, o', by omega, by go_num, rfl, rfl, HC, HO, HT5, HB5⟩, by simp [RowKit.intOf]; omega⟩
  ·obtain rfl : k = x.f2.length := by omega
   have HB5 : Hid (o' = false → o1 = false ∧ b = (x.f2.any fun y => decide (y.f0 = g.name) && compV g y) ∧ ∀ y ∈ x.f2, y.f0 = g.name → CompOk f g y) := hI (by have := HB.out; rwa [List.take_length] at this)
   have HT5 : Hid (t = x.f2.any fun y => decide (y.f0 = g.name)) := hI (by have := HT.out; rwa [List.take_length] at this)
   clear HB HT
   go_wp2_with fail
   exact hK o' b t _ HC.out HF.out HX.out HO.out ⟨HT5.out, HB5.out⟩
theorem segR27 (w : World) (O P : Nat) (fc : KCo) (x : S36) (PA CA A B : Option Addr) (pac cac c c2 : Nat) (g : KCo) (GA GB : Option Addr) (gac gbc G : Nat) (o1 there : Bool) (hne : O < P) (hl1 : g.props.length ≤ 1000) (hl2 : g.comps.length ≤ 1000)
  (hC : w.heap[O]? = some (.cells #[.bool o1] 85)) (hF : w.heap[P]? = some (.cells #[.string fc.name, .bool fc.absent, .bool fc.has, .bool fc.hasEnd, .int .i64 fc.st, .int .i64 fc.en, .slice PA fc.props.length pac, .slice CA fc.comps.length cac] 42)) (hX : w.heap[P + 1]? = some (.cells #[.string x.f0, .slice A x.f1.length c, .slice B x.f2.length c2] 36)) (hG : w.heap[G]? = some (.cells #[.string g.name, .bool g.absent, .bool g.has, .bool g.hasEnd, .int .i64 g.st, .int .i64 g.en, .slice GA g.props.length gac, .slice GB g.comps.length gbc] 42))
  (K : Act → World → Prop) (Q : Exit → Act → World → Prop)
  (hK : ∀ (o2 : Bool) (w' : World), w'.heap[O]? = some (.cells #[.bool o2] 85) → w'.heap[P]? = some (.cells #[.string fc.name, .bool fc.absent, .bool fc.has, .bool fc.hasEnd, .int .i64 fc.st, .int .i64 fc.en, .slice PA fc.props.length pac, .slice CA fc.comps.length cac] 42) → w'.heap[P + 1]? = some (.cells #[.string x.f0, .slice A x.f1.length c, .slice B x.f2.length c2] 36) → Only [O] w w' → (o2 = false → o1 = false ∧ there = false) → ∀ {y160 y161 y162 y163 y164 y165 y166 y167 y168 y169 y170 y171 y172 y173 y174 y175 y176 y177 y178 y179 y180 y181 y182 y183 y184 y185 y186 y187 : Value}, K ⟨#[.pointer (some ⟨O, 0, none⟩), u1, u2, u3, .pointer (some ⟨P, 0, none⟩), .pointer (some ⟨P + 1, 0, none⟩), u6, u7, u8, u9, u10, u11, u12, u13, .pointer (some ⟨G, 0, none⟩), u15, .bool there, u17, u18, u19, u20, u21, u22, u23, u24, u25, u26, u27, u28, u29, u30, u31, u32, u33, u34, u35, u36, u37, u38, u39, u40, u41, u42, u43, u44, u45, u46, u47, u48, u49, u50, u51, u52, u53, u54, u55, u56, u57, u58, u59, u60, u61, u62, u63, u64, u65, u66, u67, u68, u69, u70, u71, u72, u73, u74, u75, u76, u77, u78, u79, u80, u81, u82, u83, u84, u85, u86, u87, u88, u89, u90, u91, u92, u93, u94, u95, u96, u97, u98, u99, u100, u101, u102, u103, u104, u105, u106, u107, u108, u109, u110, u111, u112, u113, u114, u115, u116, u117, u118, u119, u120, u121, u122, u123, u124, u125, u126, u127, u128, u129, u130, u131, u132, u133, u134, u135, u136, u137, u138, u139, u140, u141, u142, u143, u144, u145, u146, u147, u148, u149, u150, u151, u152, u153, u154, u155, u156, u157, u158, u159, y160, y161, y162, y163, y164, y165, y166, y167, y168, y169, y170, y171, y172, y173, y174, y175, y176, y177, y178, y179, y180, y181, y182, y183, y184, y185, y186, y187, u188, u189, u190, u191, u192, u193], []⟩ w') :
  Code.wp Tryz.prog codeR27 (Exit.then K Q) ⟨#[.pointer (some ⟨O, 0, none⟩), u1, u2, u3, .pointer (some ⟨P, 0, none⟩), .pointer (some ⟨P + 1, 0, none⟩), u6, u7, u8, u9, u10, u11, u12, u13, .pointer (some ⟨G, 0, none⟩), u15, .bool there, u17, u18, u19, u20, u21, u22, u23, u24, u25, u26, u27, u28, u29, u30, u31, u32, u33, u34, u35, u36, u37, u38, u39, u40, u41, u42, u43, u44, u45, u46, u47, u48, u49, u50, u51, u52, u53, u54, u55, u56, u57, u58, u59, u60, u61, u62, u63, u64, u65, u66, u67, u68, u69, u70, u71, u72, u73, u74, u75, u76, u77, u78, u79, u80, u81, u82, u83, u84, u85, u86, u87, u88, u89, u90, u91, u92, u93, u94, u95, u96, u97, u98, u99, u100, u101, u102, u103, u104, u105, u106, u107, u108, u109, u110, u111, u112, u113, u114, u115, u116, u117, u118, u119, u120, u121, u122, u123, u124, u125, u126, u127, u128, u129, u130, u131, u132, u133, u134, u135, u136, u137, u138, u139, u140, u141, u142, u143, u144, u145, u146, u147, u148, u149, u150, u151, u152, u153, u154, u155, u156, u157, u158, u159, u160, u161, u162, u163, u164, u165, u166, u167, u168, u169, u170, u171, u172, u173, u174, u175, u176, u177, u178, u179, u180, u181, u182, u183, u184, u185, u186, u187, u188, u189, u190, u191, u192, u193], []⟩ w := by
 conv => arg 2; whnf
 have r1 : w.frozen? ⟨O, 0, none⟩ = false := frozen_blk hC 0 (by omega)
 have r0 : w.cell? ⟨O, 0, none⟩ = some (.bool o1) := (cell_blk hC 0).trans rfl
 obtain ⟨hs, hhs⟩ : ∃ b, g.has = b := ⟨_, rfl⟩
 obtain ⟨he, hhe⟩ : ∃ b, g.hasEnd = b := ⟨_, rfl⟩
 have n2 : w.cell? ⟨G, 2, none⟩ = some (.bool hs) := by rw [← hhs]; exact (cell_blk hG 2).trans rfl
 have n3 : w.cell? ⟨G, 3, none⟩ = some (.bool he) := by rw [← hhe]; exact (cell_blk hG 3).trans rfl
 have n6 : w.cell? ⟨G, 6, none⟩ = some (.slice GA g.props.length gac) := (cell_blk hG 6).trans rfl
 have n7 : w.cell? ⟨G, 7, none⟩ = some (.slice GB g.comps.length gbc) := (cell_blk hG 7).trans rfl
 have HC := hI hC
 have HF := hI hF
 have HX := hI hX
 have hwr : wrap64 ((g.props.length : Int) + (g.comps.length : Int)) = (g.props.length : Int) + (g.comps.length : Int) := by unfold wrap64; omega
 clear hC hF hX hG hhs hhe
 cases o1 with
 | true =>
  have C2 := hI (set_blk HC.out 0 (.bool true))
  have F2 := hI ((Below.heap_setCell w ⟨O, 0, none⟩ (.bool true) P (by show P ≠ O; omega)).trans HF.out)
  have X2 := hI ((Below.heap_setCell w ⟨O, 0, none⟩ (.bool true) (P + 1) (by show P + 1 ≠ O; omega)).trans HX.out)
  have O2 := hI ((Only.refl [O] w).setCell (p := ⟨O, 0, none⟩) (by simp) (.bool true))
  go_wp2_with fail
  exact hK true _ C2.out F2.out X2.out O2.out (fun h => nomatch h)
 | false =>
  cases there with
  | true =>
   have C2 := hI (set_blk HC.out 0 (.bool true))
   have F2 := hI ((Below.heap_setCell w ⟨O, 0, none⟩ (.bool true) P (by show P ≠ O; omega)).trans HF.out)
   have X2 := hI ((Below.heap_setCell w ⟨O, 0, none⟩ (.bool true) (P + 1) (by show P + 1 ≠ O; omega)).trans HX.out)
   have O2 := hI ((Only.refl [O] w).setCell (p := ⟨O, 0, none⟩) (by simp) (.bool true))
   go_wp2_with fail
   exact hK true _ C2.out F2.out X2.out O2.out (fun h => nomatch h)
  | false =>
   cases hs with
   | true =>
    have C2 := hI (set_blk HC.out 0 (.bool true))
    have F2 := hI ((Below.heap_setCell w ⟨O, 0, none⟩ (.bool true) P (by show P ≠ O; omega)).trans HF.out)
    have X2 := hI ((Below.heap_setCell w ⟨O, 0, none⟩ (.bool true) (P + 1) (by show P + 1 ≠ O; omega)).trans HX.out)
    have O2 := hI ((Only.refl [O] w).setCell (p := ⟨O, 0, none⟩) (by simp) (.bool true))
    go_wp2_with fail
    exact hK true _ C2.out F2.out X2.out O2.out (fun h => nomatch h)
   | false =>
    cases he with
    | true =>
     have C2 := hI (set_blk HC.out 0 (.bool true))
     have F2 := hI ((Below.heap_setCell w ⟨O, 0, none⟩ (.bool true) P (by show P ≠ O; omega)).trans HF.out)
     have X2 := hI ((Below.heap_setCell w ⟨O, 0, none⟩ (.bool true) (P + 1) (by show P + 1 ≠ O; omega)).trans HX.out)
     have O2 := hI ((Only.refl [O] w).setCell (p := ⟨O, 0, none⟩) (by simp) (.bool true))
     go_wp2_with fail
     exact hK true _ C2.out F2.out X2.out O2.out (fun h => nomatch h)
    | false =>
     by_cases hz : 0 < (g.props.length : Int) + (g.comps.length : Int)
     ·skip
      have C2 := hI (set_blk HC.out 0 (.bool true))
      have F2 := hI ((Below.heap_setCell w ⟨O, 0, none⟩ (.bool true) P (by show P ≠ O; omega)).trans HF.out)
      have X2 := hI ((Below.heap_setCell w ⟨O, 0, none⟩ (.bool true) (P + 1) (by show P + 1 ≠ O; omega)).trans HX.out)
      have O2 := hI ((Only.refl [O] w).setCell (p := ⟨O, 0, none⟩) (by simp) (.bool true))
      go_wp2_with fail
      exact hK true _ C2.out F2.out X2.out O2.out (fun h => nomatch h)
     ·skip
      have C2 := hI (set_blk HC.out 0 (.bool false))
      have F2 := hI ((Below.heap_setCell w ⟨O, 0, none⟩ (.bool false) P (by show P ≠ O; omega)).trans HF.out)
      have X2 := hI ((Below.heap_setCell w ⟨O, 0, none⟩ (.bool false) (P + 1) (by show P + 1 ≠ O; omega)).trans HX.out)
      have O2 := hI ((Only.refl [O] w).setCell (p := ⟨O, 0, none⟩) (by simp) (.bool false))
      go_wp2_with fail
      exact hK false _ C2.out F2.out X2.out O2.out (fun _ => ⟨(by first | rfl | trivial), (by first | rfl | trivial)⟩)
theorem segG13 (w : World) (O P : Nat) (fc : KCo) (x : S36) (PA CA A B : Option Addr) (pac cac c c2 : Nat) (o1 v : Bool) (hne : O < P) (w0 : World) (f : ByteArray → Option ByteArray) (hb0 : Below w0.heap.size w0 w) (hO0 : w0.heap.size ≤ O) (hCA : kCo.C w0 CA fc.comps.length fc.comps) (hxk : k36.C w0 B x.f2.length x.f2) (hKO : KOk fc) (ih : ∀ g ∈ fc.comps, ∀ (w1 : World) (o : Bool) (y : S36) (A' B' GA GB : Option Addr) (d d2 gac gbc : Nat), Below w0.heap.size w0 w1 → w1.heap[O]? = some (.cells #[.bool o] 85) → kPr.C w0 GA g.props.length g.props → kCo.C w0 GB g.comps.length g.comps → y ∈ x.f2 → k75.C w0 A' y.f1.length y.f1 → k36.C w0 B' y.f2.length y.f2 → Calls Tryz.prog 37 #[.pointer (some ⟨O, 0, none⟩), .agg #[.string g.name, .bool false, .bool g.has, .bool g.hasEnd, .int .i64 g.st, .int .i64 g.en, .slice GA g.props.length gac, .slice GB g.comps.length gbc], .agg #[.string y.f0, .slice A' y.f1.length d, .slice B' y.f2.length d2]] w1 (SeenPost w1 O o (fun v => CompOk f g y ∧ v = compV g y)))
  (hC : w.heap[O]? = some (.cells #[.bool o1] 85)) (hF : w.heap[P]? = some (.cells #[.string fc.name, .bool fc.absent, .bool fc.has, .bool fc.hasEnd, .int .i64 fc.st, .int .i64 fc.en, .slice PA fc.props.length pac, .slice CA fc.comps.length cac] 42)) (hX : w.heap[P + 1]? = some (.cells #[.string x.f0, .slice A x.f1.length c, .slice B x.f2.length c2] 36))
  (K : Act → World → Prop) (Q : Exit → Act → World → Prop)
  (hK : ∀ (o2 : Bool) (v2 : Bool) (w' : World), w'.heap[O]? = some (.cells #[.bool o2] 85) → w'.heap[P]? = some (.cells #[.string fc.name, .bool fc.absent, .bool fc.has, .bool fc.hasEnd, .int .i64 fc.st, .int .i64 fc.en, .slice PA fc.props.length pac, .slice CA fc.comps.length cac] 42) → w'.heap[P + 1]? = some (.cells #[.string x.f0, .slice A x.f1.length c, .slice B x.f2.length c2] 36) → Only [O] w w' → (o2 = false → o1 = false ∧ v2 = (v && fc.comps.all fun g => kidV g x.f2) ∧ (∀ g ∈ fc.comps, g.absent = true → ∀ y ∈ x.f2, y.f0 ≠ g.name) ∧ (∀ g ∈ fc.comps, g.absent = false → ∀ y ∈ x.f2, y.f0 = g.name → CompOk f g y)) → ∀ {y14 y15 y16 y18 y19 y129 y130 y131 y132 y133 y134 y135 y136 y137 y138 y139 y140 y141 y142 y143 y144 y145 y146 y147 y148 y149 y150 y151 y152 y153 y154 y155 y156 y157 y158 y159 y160 y161 y162 y163 y164 y165 y166 y167 y168 y169 y170 y171 y172 y173 y174 y175 y176 y177 y178 y179 y180 y181 y182 y183 y184 y185 y186 y187 y188 y189 y190 y191 y192 : Value}, K ⟨#[.pointer (some ⟨O, 0, none⟩), u1, u2, u3, .pointer (some ⟨P, 0, none⟩), .pointer (some ⟨P + 1, 0, none⟩), u6, .bool v2, u8, u9, u10, u11, u12, u13, y14, y15, y16, u17, y18, y19, u20, u21, u22, u23, u24, u25, u26, u27, u28, u29, u30, u31, u32, u33, u34, u35, u36, u37, u38, u39, u40, u41, u42, u43, u44, u45, u46, u47, u48, u49, u50, u51, u52, u53, u54, u55, u56, u57, u58, u59, u60, u61, u62, u63, u64, u65, u66, u67, u68, u69, u70, u71, u72, u73, u74, u75, u76, u77, u78, u79, u80, u81, u82, u83, u84, u85, u86, u87, u88, u89, u90, u91, u92, u93, u94, u95, u96, u97, u98, u99, u100, u101, u102, u103, u104, u105, u106, u107, u108, u109, u110, u111, u112, u113, u114, u115, u116, u117, u118, u119, u120, u121, u122, u123, u124, u125, u126, u127, u128, y129, y130, y131, y132, y133, y134, y135, y136, y137, y138, y139, y140, y141, y142, y143, y144, y145, y146, y147, y148, y149, y150, y151, y152, y153, y154, y155, y156, y157, y158, y159, y160, y161, y162, y163, y164, y165, y166, y167, y168, y169, y170, y171, y172, y173, y174, y175, y176, y177, y178, y179, y180, y181, y182, y183, y184, y185, y186, y187, y188, y189, y190, y191, y192, u193], []⟩ w') :
  Code.wp Tryz.prog codeG13 (Exit.then K Q) ⟨#[.pointer (some ⟨O, 0, none⟩), u1, u2, u3, .pointer (some ⟨P, 0, none⟩), .pointer (some ⟨P + 1, 0, none⟩), u6, .bool v, u8, u9, u10, u11, u12, u13, u14, u15, u16, u17, u18, u19, u20, u21, u22, u23, u24, u25, u26, u27, u28, u29, u30, u31, u32, u33, u34, u35, u36, u37, u38, u39, u40, u41, u42, u43, u44, u45, u46, u47, u48, u49, u50, u51, u52, u53, u54, u55, u56, u57, u58, u59, u60, u61, u62, u63, u64, u65, u66, u67, u68, u69, u70, u71, u72, u73, u74, u75, u76, u77, u78, u79, u80, u81, u82, u83, u84, u85, u86, u87, u88, u89, u90, u91, u92, u93, u94, u95, u96, u97, u98, u99, u100, u101, u102, u103, u104, u105, u106, u107, u108, u109, u110, u111, u112, u113, u114, u115, u116, u117, u118, u119, u120, u121, u122, u123, u124, u125, u126, u127, u128, u129, u130, u131, u132, u133, u134, u135, u136, u137, u138, u139, u140, u141, u142, u143, u144, u145, u146, u147, u148, u149, u150, u151, u152, u153, u154, u155, u156, u157, u158, u159, u160, u161, u162, u163, u164, u165, u166, u167, u168, u169, u170, u171, u172, u173, u174, u175, u176, u177, u178, u179, u180, u181, u182, u183, u184, u185, u186, u187, u188, u189, u190, u191, u192, u193], []⟩ w := by
 conv => arg 2; whnf
 have f7 : w.cell? ⟨P, 7, none⟩ = some (.slice CA fc.comps.length cac) := (cell_blk hF 7).trans rfl
 have hlc := hCA.2.1
 have hlk := hxk.2.1
 have HC := hI hC
 have HF := hI hF
 have HX := hI hX
 have HI := hI ih
 have hz0 := hb0.size
 clear hC hF hX ih
 go_wp2_with fail
 clear f7
 go_loopw [7, 132] (fun s7 i wr => ∃ (k : Nat) (b o' : Bool), k ≤ fc.comps.length ∧ i = .int .i64 k ∧ s7 = .bool b ∧ Hid (wr.heap[O]? = some (.cells #[.bool o'] 85)) ∧ Hid (Only [O] w wr) ∧ Hid (o' = false → o1 = false ∧ b = (v && (fc.comps.take k).all fun g => kidV g x.f2) ∧ (∀ g ∈ (fc.comps.take k), g.absent = true → ∀ y ∈ x.f2, y.f0 ≠ g.name) ∧ (∀ g ∈ (fc.comps.take k), g.absent = false → ∀ y ∈ x.f2, y.f0 = g.name → CompOk f g y))) (fun _ i _ => fc.comps.length - (RowKit.intOf i).toNat)
 case atStart => exact ⟨0, v, o1, Nat.zero_le _, rfl, rfl, HC, hI (Only.refl _ _), hI (fun h => ⟨h, by simp, (fun g hg => by simp at hg), fun g hg => by simp at hg⟩)⟩
 case round =>
  have HF0 := HF
  have HX0 := HX
  clear HC HF HX
  obtain ⟨k, b, o', hk, rfl, rfl, HC, HO, HB⟩ := hrel
  have HF := hI (HO.out.blk HF0.out (by simp; omega))
  have HX := hI (HO.out.blk HX0.out (by simp; omega))
  obtain ⟨wo, rfl⟩ : ∃ wo : World, wo = wr := ⟨_, rfl⟩
  by_cases hlt : k < fc.comps.length
  ·obtain ⟨g, hge⟩ : ∃ g, fc.comps[k]? = some g := ⟨_, List.getElem?_eq_getElem hlt⟩
   have hgm := List.mem_of_getElem? hge
   have hgl : g.props.length ≤ 10 ∧ g.comps.length ≤ 40 := by
    have hgo : KOk g := by cases hKO with | mk _ a b c d e f g' => exact g' g hgm
    cases hgo with | mk _ a b c d e f g' => exact ⟨d, e⟩
   obtain ⟨ad, GA, gac, GB, gbc, rfl, hlv, hrv, hlv2, hrv2, g0, g1, g2, g3, g4, g5, g6, g7⟩ := at_kCo hCA k g hge
   have hbw : Below w0.heap.size w0 wo := hb0.trans (HO.out.below hz0 (by intro y hy; simp at hy; omega))
   have g0 := pw_cell_below hbw g0
   have g1 := pw_cell_below hbw g1
   have g2 := pw_cell_below hbw g2
   have g3 := pw_cell_below hbw g3
   have g4 := pw_cell_below hbw g4
   have g5 := pw_cell_below hbw g5
   have g6 := pw_cell_below hbw g6
   have g7 := pw_cell_below hbw g7
   have HGE := hI hge
   have HRV := hI (And.intro hrv hrv2)
   have HGM := hI hgm
   clear hge hrv hrv2 hgm
   go_upto_region 16 with (fail)
   have hC := old_blk HC.out (.cells #[.string g.name, .bool g.absent, .bool g.has, .bool g.hasEnd, .int .i64 g.st, .int .i64 g.en, .slice GA g.props.length gac, .slice GB g.comps.length gbc] 42)
   have hF := old_blk HF.out (.cells #[.string g.name, .bool g.absent, .bool g.has, .bool g.hasEnd, .int .i64 g.st, .int .i64 g.en, .slice GA g.props.length gac, .slice GB g.comps.length gbc] 42)
   have hX := old_blk HX.out (.cells #[.string g.name, .bool g.absent, .bool g.has, .bool g.hasEnd, .int .i64 g.st, .int .i64 g.en, .slice GA g.props.length gac, .slice GB g.comps.length gbc] 42)
   have hG := new_blk wo (.cells #[.string g.name, .bool g.absent, .bool g.has, .bool g.hasEnd, .int .i64 g.st, .int .i64 g.en, .slice GA g.props.length gac, .slice GB g.comps.length gbc] 42)
   have hO1 := HO.out.alloc (.cells #[.string g.name, .bool g.absent, .bool g.has, .bool g.hasEnd, .int .i64 g.st, .int .i64 g.en, .slice GA g.props.length gac, .slice GB g.comps.length gbc] 42)
   have hbw1 := hbw.alloc hbw.size (.cells #[.string g.name, .bool g.absent, .bool g.has, .bool g.hasEnd, .int .i64 g.st, .int .i64 g.en, .slice GA g.props.length gac, .slice GB g.comps.length gbc] 42)
   have hOG : O < wo.heap.size := lt_blk HC.out
   generalize hwx : wo.alloc _ = wx at hC hF hX hG hO1 hbw1 ⊢
   obtain ⟨G, hGe⟩ : ∃ G, G = wo.heap.size := ⟨_, rfl⟩
   rw [← hGe] at hG hOG ⊢
   clear hwx hGe g0 g1 g2 g3 g4 g5 g6 g7 HC HF HX HO hbw
   have x2 : wx.cell? ⟨P + 1, 2, none⟩ = some (.slice B x.f2.length c2) := (cell_blk hX 2).trans rfl
   have HO := hI hO1
   have HC := hI hC
   have HF := hI hF
   have HX := hI hX
   have HG := hI hG
   have HW := hI hbw1
   clear hO1 hC hF hX hG hbw1
   go_upto_block 4 with (fail)
   clear x2
   refine segK wx O P fc x PA (some ad) A B pac cac c c2 g GA GB gac gbc G o' hne hOG w0 f HW.out hO0 hxk (fun w1 o y A' B' d d2 hb ho hy h1 h2 => HI.out g HGM.out w1 o y A' B' GA GB d d2 gac gbc hb ho HRV.out.1 HRV.out.2 hy h1 h2) HC.out HF.out HX.out HG.out _ _ ?_
   intro o6 any there w6 hC6 hF6 hX6 hO6 hR6
   intros
   have hnG : G ∉ [O] := by simp; omega
   have HG6 := hI (hO6.blk HG.out hnG)
   have HO := hI (HO.out.trans hO6)
   have HC6 := hI hC6
   have HF6 := hI hF6
   have HX6 := hI hX6
   have HT6 := hI hR6.1
   have HR6 := hI hR6.2
   clear hC6 hF6 hX6 hO6 hR6 hnG HC HF HX HG HW
   have HB7 : Hid (∀ u oo, (g.absent = false → u = (any && b)) → (g.absent = true → u = b) → (oo = false → o6 = false ∧ (g.absent = true → there = false)) → oo = false → o1 = false ∧ u = (v && (fc.comps.take (k + 1)).all fun g => kidV g x.f2) ∧ (∀ g ∈ (fc.comps.take (k + 1)), g.absent = true → ∀ y ∈ x.f2, y.f0 ≠ g.name) ∧ (∀ g ∈ (fc.comps.take (k + 1)), g.absent = false → ∀ y ∈ x.f2, y.f0 = g.name → CompOk f g y)) := hI (fun u oo hu1 hu2 ho h => by
    obtain ⟨h1, h2⟩ := ho h
    obtain ⟨h3, h4, h5⟩ := HR6.out h1
    obtain ⟨k1, k2, k3, k4⟩ := HB.out h3
    refine ⟨k1, ?_, ?_, ?_⟩
    ·rw [all_sn _ _ _ _ HGE.out]
     unfold kidV
     rcases Bool.eq_false_or_eq_true g.absent with ha | ha
     ·rw [hu2 ha, if_pos ha, k2]
      unfold kidV
      simp
     ·rw [hu1 ha, if_neg (by rw [ha]; decide), k2, h4, Bool.and_comm, Bool.and_assoc]
      rfl
    ·rw [take_snoc' _ _ _ HGE.out]
     intro g' hg' ha y hy
     rcases List.mem_append.1 hg' with hm | hm
     ·exact k3 g' hm ha y hy
     ·rw [List.mem_singleton.1 hm] at ha ⊢
      intro hn
      have h6 := h2 ha
      rw [HT6.out] at h6
      rw [List.any_eq_false] at h6
      exact h6 y hy (decide_eq_true hn)
    ·rw [take_snoc' _ _ _ HGE.out]
     intro g' hg' ha y hy hn
     rcases List.mem_append.1 hg' with hm | hm
     ·exact k4 g' hm ha y hy hn
     ·rw [List.mem_singleton.1 hm] at hn ⊢
      exact h5 y hy hn)
   clear HB HR6 HT6
   obtain ⟨ab, hab⟩ : ∃ ab, g.absent = ab := ⟨_, rfl⟩
   have n1 : w6.cell? ⟨G, 1, none⟩ = some (.bool ab) := by rw [← hab]; exact (cell_blk HG6.out 1).trans rfl
   have HAB := hI hab
   clear hab
   go_upto_if 159 with (fail)
   clear n1
   cases ab with
   | true =>
    go_upto_region 27 with (fail)
    refine segR27 w6 O P fc x PA (some ad) A B pac cac c c2 g GA GB gac gbc G o6 there hne (by omega) (by omega) HC6.out HF6.out HX6.out HG6.out _ _ ?_
    intro o7 w7 hC7 hF7 hX7 hO7 hR7
    intros
    have HC := hI hC7
    have HO := hI (HO.out.trans hO7)
    have HN : Hid (o7 = false → o1 = false ∧ b = (v && (fc.comps.take (k + 1)).all fun g => kidV g x.f2) ∧ (∀ g ∈ (fc.comps.take (k + 1)), g.absent = true → ∀ y ∈ x.f2, y.f0 ≠ g.name) ∧ (∀ g ∈ (fc.comps.take (k + 1)), g.absent = false → ∀ y ∈ x.f2, y.f0 = g.name → CompOk f g y)) := hI (HB7.out b o7 (fun h => by rw [HAB.out] at h; cases h) (fun _ => rfl) (fun h => ⟨(hR7 h).1, fun _ => (hR7 h).2⟩))
    clear hC7 hF7 hX7 hO7 hR7 HB7 HC6 HF6 HX6 HG6
    go_wp2
    exact ⟨⟨k + 1, b, o7, by omega, by go_num, rfl, HC, HO, HN⟩, by simp [RowKit.intOf]; omega⟩
   | false =>
    cases any with
    | true =>
     have HN : Hid (o6 = false → o1 = false ∧ b = (v && (fc.comps.take (k + 1)).all fun g => kidV g x.f2) ∧ (∀ g ∈ (fc.comps.take (k + 1)), g.absent = true → ∀ y ∈ x.f2, y.f0 ≠ g.name) ∧ (∀ g ∈ (fc.comps.take (k + 1)), g.absent = false → ∀ y ∈ x.f2, y.f0 = g.name → CompOk f g y)) := hI (HB7.out b o6 (fun _ => by simp) (fun _ => rfl) (fun h => ⟨h, fun ha => by rw [HAB.out] at ha; cases ha⟩))
     clear HB7 HF6 HX6 HG6
     go_wp2
     exact ⟨⟨k + 1, b, o6, by omega, by go_num, rfl, HC6, HO, HN⟩, by simp [RowKit.intOf]; omega⟩
    | false =>
     have HN : Hid (o6 = false → o1 = false ∧ false = (v && (fc.comps.take (k + 1)).all fun g => kidV g x.f2) ∧ (∀ g ∈ (fc.comps.take (k + 1)), g.absent = true → ∀ y ∈ x.f2, y.f0 ≠ g.name) ∧ (∀ g ∈ (fc.comps.take (k + 1)), g.absent = false → ∀ y ∈ x.f2, y.f0 = g.name → CompOk f g y)) := hI (HB7.out false o6 (fun _ => by simp) (fun ha => by rw [HAB.out] at ha; cases ha) (fun h => ⟨h, fun ha => by rw [HAB.out] at ha; cases ha⟩))
     clear HB7 HF6 HX6 HG6
     go_wp2
     exact ⟨⟨k + 1, false, o6, by omega, by go_num, rfl, HC6, HO, HN⟩, by simp [RowKit.intOf]; omega⟩
  ·obtain rfl : k = fc.comps.length := by omega
   have HB5 : Hid (o' = false → o1 = false ∧ b = (v && fc.comps.all fun g => kidV g x.f2) ∧ (∀ g ∈ fc.comps, g.absent = true → ∀ y ∈ x.f2, y.f0 ≠ g.name) ∧ (∀ g ∈ fc.comps, g.absent = false → ∀ y ∈ x.f2, y.f0 = g.name → CompOk f g y)) := hI (by have := HB.out; rwa [List.take_length] at this)
   clear HB
   go_wp2_with fail
   exact hK o' b _ HC.out HF.out HX.out HO.out HB5.out
end
theorem compV_abs (g : KCo) (b : Bool) (y : S36) : compV ⟨g.name, b, g.has, g.hasEnd, g.st, g.en, g.props, g.comps⟩ y = compV g y := by
 rw [compV_eq, compV_eq]
theorem compOk_abs {f : ByteArray → Option ByteArray} {g : KCo} {b : Bool} {y : S36} (h : CompOk f ⟨g.name, b, g.has, g.hasEnd, g.st, g.en, g.props, g.comps⟩ y) : CompOk f g y := by
 cases h with
 | mk _ _ h1 h2 h3 h4 => exact .mk _ _ h1 h2 h3 h4
theorem kOk_abs {g : KCo} (b : Bool) (h : KOk g) : KOk ⟨g.name, b, g.has, g.hasEnd, g.st, g.en, g.props, g.comps⟩ := by
 cases h with
 | mk _ h1 h2 h3 h4 h5 h6 h7 => exact .mk _ h1 h2 h3 h4 h5 h6 h7
theorem size_abs (g : KCo) (b : Bool) : SizeOf.sizeOf (⟨g.name, b, g.has, g.hasEnd, g.st, g.en, g.props, g.comps⟩ : KCo) = SizeOf.sizeOf g := by
 cases g
 rename_i a b2 c d e h i j
 cases b <;> cases b2 <;> simp
theorem seenCompN (N : Nat) : ∀ (fc : KCo) (_ : SizeOf.sizeOf fc ≤ N) (_ : KOk fc) (w0 w : World) (O : Nat) (o : Bool) (f : ByteArray → Option ByteArray) (x : S36) (PA CA A B : Option Addr) (pac cac c c2 : Nat) (_ : Below w0.heap.size w0 w) (_ : w0.heap.size ≤ O) (_ : w.heap[O]? = some (.cells #[.bool o] 85)) (_ : kPr.C w0 PA fc.props.length fc.props) (_ : kCo.C w0 CA fc.comps.length fc.comps) (_ : k75.C w0 A x.f1.length x.f1) (_ : k36.C w0 B x.f2.length x.f2) (_ : AllC okC x) (_ : TabOk f),
  Calls Tryz.prog 37 #[.pointer (some ⟨O, 0, none⟩), .agg #[.string fc.name, .bool fc.absent, .bool fc.has, .bool fc.hasEnd, .int .i64 fc.st, .int .i64 fc.en, .slice PA fc.props.length pac, .slice CA fc.comps.length cac], .agg #[.string x.f0, .slice A x.f1.length c, .slice B x.f2.length c2]] w (SeenPost w O o (fun v => CompOk f fc x ∧ v = compV fc x)) := by
 induction N with
 | zero => intro fc h; cases fc; simp at h
 | succ N ih =>
  intro fc hN hKO w0 w O o f x PA CA A B pac cac c c2 hb0 hO0 hO hPA hCA hx hxk hxo hTab
  have hne : O < w.heap.size := lt_blk hO
  have hz0 := hb0.size
  have hst : 0 ≤ fc.st ∧ 0 ≤ fc.en := by cases hKO with | mk _ a b c d e f g => exact ⟨b.1, c.1⟩
  have hbw : ∀ w', Only [O] w w' → Below w0.heap.size w0 w' := fun w' h => hb0.trans (h.below hz0 (by intro y hy; simp at hy; omega))
  go_enter Tryz.func37, Tryz.ntmps37
  refine wp_seq_k (fun K0 h0 => ?_)
  refine segR0 w O fc x PA CA A B pac cac c c2 o hO _ _ ?_
  intro w1 hC1 hF1 hX1 hO1
  refine h0 _ _ ?_
  refine wp_seq_k (fun K1 h1 => ?_)
  refine segG1 w1 O w.heap.size fc x PA CA A B pac cac c c2 o hne hC1 hF1 hX1 _ _ ?_
  intro o2 w2 hC2 hF2 hX2 hO2 hR2
  intros
  refine h1 _ _ ?_
  refine wp_seq_k (fun K2 h2 => ?_)
  refine segR3 w2 _ _ ?_
  refine h2 _ _ ?_
  refine wp_seq_k (fun K3 h3 => ?_)
  have hO2 := hO1.trans hO2
  refine segG4 w2 O w.heap.size fc x PA CA A B pac cac c c2 o2 hne w0 f (hbw _ hO2) hx hxo hTab hst hC2 hF2 hX2 _ _ ?_
  intro o3 vt w3 hC3 hF3 hX3 hO3 hR3
  intros
  refine h3 _ _ ?_
  refine wp_seq_k (fun K4 h4 => ?_)
  have hO3 := hO2.trans hO3
  refine segG8 w3 O w.heap.size fc x PA CA A B pac cac c c2 o3 vt hne w0 f (hbw _ hO3) hO0 hPA hx hKO hxo.here hTab hC3 hF3 hX3 _ _ ?_
  intro o4 v4 w4 hC4 hF4 hX4 hO4 hR4
  intros
  refine h4 _ _ ?_
  refine wp_seq_k (fun K5 h5 => ?_)
  have hO4 := hO3.trans hO4
  refine segG13 w4 O w.heap.size fc x PA CA A B pac cac c c2 o4 v4 hne w0 f (hbw _ hO4) hO0 hCA hxk hKO (fun g hg w5 o y A' B' GA GB d d2 gac gbc hb ho hr1 hr2 hy hr3 hr4 => by
   have hgo : KOk g := by cases hKO with | mk _ a b c d e f g' => exact g' g hg
   have hgl := comp_lt fc g hg
   refine (ih ⟨g.name, false, g.has, g.hasEnd, g.st, g.en, g.props, g.comps⟩ (by rw [size_abs]; omega) (kOk_abs false hgo) w0 w5 O o f y GA GB A' B' gac gbc d d2 hb hO0 ho hr1 hr2 hr3 hr4 (hxo.kid hy) hTab).mono ?_
   rintro e w6 ⟨o', v, h1, h2, h3, h4⟩
   refine ⟨o', v, h1, h2, h3, fun h => ?_⟩
   obtain ⟨q1, q2, q3⟩ := h4 h
   exact ⟨q1, compOk_abs q2, by rw [q3, compV_abs]⟩) hC4 hF4 hX4 _ _ ?_
  intro o5 v5 w5 hC5 hF5 hX5 hO5 hR5
  intros
  refine h5 _ _ ?_
  have HO := hI (hO4.trans hO5)
  have HC := hI hC5
  have HR : Hid (o5 = false → o = false ∧ CompOk f fc x ∧ v5 = compV fc x) := hI (fun h => by
   obtain ⟨a1, a2, a3, a4⟩ := hR5 h
   obtain ⟨b1, b2, b3⟩ := hR4 a1
   obtain ⟨c1, c2, c3⟩ := hR3 b1
   refine ⟨hR2 c1, .mk _ _ c2 b2 a3 a4, ?_⟩
   rw [compV_eq, a2, b3, c3, Bool.and_right_comm])
  clear hC1 hF1 hX1 hO1 hC2 hF2 hX2 hO2 hR2 hC3 hF3 hX3 hO3 hR3 hC4 hF4 hX4 hO4 hR4 hC5 hF5 hX5 hO5 hR5 h0 h1 h2 h3 h4 h5 ih
  go_wp2
  go_ret
  exact ⟨o5, v5, rfl, HC.out, HO.out, HR.out⟩
theorem seenComp (w0 w : World) (O : Nat) (o : Bool) (f : ByteArray → Option ByteArray) (fc : KCo) (x : S36) (PA CA A B : Option Addr) (pac cac c c2 : Nat) (hb0 : Below w0.heap.size w0 w) (hO0 : w0.heap.size ≤ O) (hO : w.heap[O]? = some (.cells #[.bool o] 85)) (hPA : kPr.C w0 PA fc.props.length fc.props) (hCA : kCo.C w0 CA fc.comps.length fc.comps) (hx : k75.C w0 A x.f1.length x.f1) (hxk : k36.C w0 B x.f2.length x.f2) (hK : KOk fc) (hxo : AllC okC x) (hTab : TabOk f) :
  Calls Tryz.prog 37 #[.pointer (some ⟨O, 0, none⟩), .agg #[.string fc.name, .bool fc.absent, .bool fc.has, .bool fc.hasEnd, .int .i64 fc.st, .int .i64 fc.en, .slice PA fc.props.length pac, .slice CA fc.comps.length cac], .agg #[.string x.f0, .slice A x.f1.length c, .slice B x.f2.length c2]] w (SeenPost w O o (fun v => CompOk f fc x ∧ v = compV fc x)) :=
 seenCompN _ fc (Nat.le_refl _) hK w0 w O o f x PA CA A B pac cac c c2 hb0 hO0 hO hPA hCA hx hxk hxo hTab
end Go.Proofs.YtcllaplddebilaaGreatDoor

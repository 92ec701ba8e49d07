/- laws.FnKMatch: a part of the proof: RSlice, RLine, Rune, RuneEnd, BWrite, RdLine, RdCont, IndexAny, DecLine, DecCL, Awk, Awk2, Body, DecComp, Decode, Params0, CompOf. -/
import Derived.Deep.RegionHeldLaw
import Derived.LaidEql
import Derived.Laws.AppendOwn
import Derived.WalkMore
import Derived.Test.YtcllaplddebilaaGreatDoorK29
import Derived.Test.YtcllaplddebilaaGreatDoorK30
set_option maxRecDepth 1000000
set_option maxHeartbeats 64000000
set_option linter.unusedVariables false
set_option linter.unusedSimpArgs false
section
namespace Go.Proofs.YtcllaplddebilaaGreatDoor
open Go.RowKit Go.Sort
attribute [local go_sem] cell?_grow frozen?_grow cell?_redrawn frozen?_redrawn size_redrawn size_grow ba_get ba_extract
attribute [local simp] size_redrawn
open Go.Lib
theorem row_cell {w : World} {B : Nat} {cs : Array Value} {ty : TypeId} (hB : w.heap[B]? = some (.cells cs ty (0, 0))) (o : Nat) : w.cell? ⟨B, o, none⟩ = cs[o]? := cell_blk hB o
def RdS (w : World) (R B SR : Nat) (t : ByteArray) (r n : Int) (err : Value) (lb lr : Int) (cs : Array Value) (i : Int) : Prop := BR w R B SR r n err lb lr ∧ SRd w SR t i (-1) ∧ w.heap[B]? = some (.cells cs 5 (0, 0))
theorem RdS.only {w w' : World} {R B SR : Nat} {t : ByteArray} {r n : Int} {err : Value} {lb lr : Int} {cs : Array Value} {i r' n' : Int} {err' : Value} {lb' lr' : Int} (h : RdS w R B SR t r n err lb lr cs i) (hRB : R ≠ B) (hRS : R ≠ SR) (ho : Only [R] w w') (hR : BR w' R B SR r' n' err' lb' lr') : RdS w' R B SR t r' n' err' lb' lr' cs i :=
 ⟨hR, ho.blk h.2.1 (by simp; exact fun e => hRS e.symm), ho.blk h.2.2 (by simp; exact fun e => hRB e.symm)⟩
theorem buffered (R B SR : Nat) (r n : Int) (err : Value) (lb lr : Int) (w : World) (hR : BR w R B SR r n err lb lr) (hn : 0 ≤ r ∧ r ≤ n ∧ n ≤ 4096) :
  Calls Tryz.prog 318 #[.pointer (some ⟨R, 0, none⟩)] w fun e w' => e = .returned (.int .i64 (n - r)) ∧ ∃ m, w' = w.drewN m := by
 obtain ⟨c0, c1, c2, c3, c4, c5, c6, fR⟩ := br_cells hR
 clear hR
 go_enter Tryz.func318, Tryz.ntmps318
 go_wp2_with fail
 go_quiet (fail)
 go_wp2
 go_ret
 exact ⟨rfl, nq, rfl⟩
theorem slice_hit (R B SR r n k : Nat) (lb lr : Int) (cs : Array Value) (xs : List Int) (w : World) (hR : BR w R B SR (r : Int) (n : Int) .nilIface lb lr) (hB : w.heap[B]? = some (.cells cs 5 (0, 0))) (hRB : R ≠ B) (hn : n ≤ 4096) (hcs : cs.size = 4096)
  (hx : xs.length = n - r) (hc : ∀ i, i < n - r → cs[r + i]? = some (.int .u8 (xs.getD i 0))) (hk : indexByte (bytesOf xs) 10 = (k : Int)) (hk2 : r + k < n) (hl : cs[r + k]? = some (.int .u8 10)) :
  Calls Tryz.prog 306 #[.pointer (some ⟨R, 0, none⟩), .int .u8 10] w fun e w' => e = .returned (.tuple #[.slice (some ⟨B, r, none⟩) (k + 1) (4096 - r), .nilIface]) ∧ BR w' R B SR ((r + k + 1 : Nat) : Int) (n : Int) .nilIface 10 (-1) ∧ Only [R] w w' := by
 obtain ⟨c0, c1, c2, c3, c4, c5, c6, fR⟩ := br_cells hR
 have HR := hI hR
 have HB := hI hB
 clear hR hB
 go_enter Tryz.func306, Tryz.ntmps306
 go_wp2_with fail
 refine wp_loop_rounds 1 ?_
 rw [rounds_succ]
 go_wp2_with fail
 have hix := fun q => Tryz.bytes_IndexByte B r (n - r) (4096 - r) xs 10 (w.drewN q) hx (fun i hi => by rw [row_cell (w := w.drewN q) HB.out]; exact hc i hi)
 replace hix := fun q => (show _ from (by have h := hix q; rw [show (10 : Int).toNat.toUInt8 = 10 from rfl, hk] at h; exact h : Calls Tryz.prog 317 #[.slice (some ⟨B, r, none⟩) (n - r) (4096 - r), .int .u8 10] (w.drewN q) fun e w' => e = .returned (.int .i64 (k : Int)) ∧ w' = w.drewN q))
 go_quiet (first | (go_at_call 317; refine Calls.quiet_of_same (hix _)))
 go_wp2
 go_quiet (fail)
 generalize hwd : World.drewN _ nq = wd
 have hR : BR wd R B SR (r : Int) (n : Int) .nilIface lb lr := by rw [← hwd]; exact HR.out
 have hB : wd.heap[B]? = some (.cells cs 5 (0, 0)) := by rw [← hwd]; exact HB.out
 have ho : Only [R] w wd := by rw [← hwd]; exact ((Only.refl _ _).drewN _).drewN _
 clear hwd HR HB c0 c1 c2 c3 c4 c5 c6 fR hix
 obtain ⟨c0, c1, c2, c3, c4, c5, c6, fR⟩ := br_cells hR
 have HR := hI hR
 have HB := hI hB
 have HO := hI ho
 have cB : wd.cell? ⟨B, r + k, none⟩ = some (.int .u8 10) := by rw [row_cell hB]; exact hl
 have e1 : r + k + 1 - r = k + 1 := by omega
 have e2 : ((k + 1 : Nat) : Int) - 1 = (k : Int) := by omega
 clear hR hB ho
 go_wp2_with fail
 refine bodyPost_ret (v := .tuple #[.slice (some ⟨B, r, none⟩) (k + 1) (4096 - r), .nilIface]) (by simp [results, Tryz.results306, go_sem, e1]) rfl ?_
 have hR9 := br_lr (br_lb (br_r HR.out ((r : Int) + ((k : Int) + 1))) 10) (-1)
 rw [show (r : Int) + ((k : Int) + 1) = ((r + k + 1 : Nat) : Int) by omega] at hR9 ⊢
 exact ⟨rfl, hR9, ((HO.out.setCell (p := ⟨R, 2, none⟩) (by simp) _).setCell (p := ⟨R, 5, none⟩) (by simp) _).setCell (p := ⟨R, 6, none⟩) (by simp) _⟩
theorem slice_first (R B SR k : Nat) (t : ByteArray) (w : World) (hD : RdS w R B SR t 0 0 .nilIface (-1) (-1) zbuf 0) (hRB : R ≠ B) (hRS : R ≠ SR) (h0 : 0 < t.size) (ht : t.size ≤ 4000)
  (xs : List Int) (hx : xs.length = t.size) (hc : ∀ i, i < t.size → (bufRow t)[i]? = some (.int .u8 (xs.getD i 0))) (hk : indexByte (bytesOf xs) 10 = (k : Int)) (hk2 : k < t.size) (hl : (bufRow t)[k]? = some (.int .u8 10)) :
  Calls Tryz.prog 306 #[.pointer (some ⟨R, 0, none⟩), .int .u8 10] w fun e w' => e = .returned (.tuple #[.slice (some ⟨B, 0, none⟩) (k + 1) 4096, .nilIface]) ∧ RdS w' R B SR t ((k + 1 : Nat) : Int) (t.size : Int) .nilIface 10 (-1) (bufRow t) (t.size : Int) ∧ Only [R, SR, B] w w' := by
 have hix := fun q => Tryz.bytes_IndexByte B 0 0 4096 [] 10 (w.drewN q) rfl (fun i hi => by omega)
 replace hix := fun q => (show _ from (by have h := hix q; exact h : Calls Tryz.prog 317 #[.slice (some ⟨B, 0, none⟩) 0 4096, .int .u8 10] (w.drewN q) fun e w' => e = .returned (.int .i64 (-1)) ∧ w' = w.drewN q))
 have HO := hI (Only.refl [R, SR, B] w); obtain ⟨c0, c1, c2, c3, c4, c5, c6, fR⟩ := br_cells hD.1; have HD := hI hD; clear hD
 go_enter Tryz.func306, Tryz.ntmps306
 go_wp2_with fail
 refine wp_loop_rounds 2 ?_
 rw [rounds_succ]
 go_wp2_with fail
 go_quiet (first | (go_at_call 317; refine Calls.quiet_of_same (hix _)))
 generalize hwq : World.drewN w nq = wd; have hD : RdS wd R B SR t 0 0 .nilIface (-1) (-1) zbuf 0 := (by rw [← hwq]; exact HD.out); have ho : Only [R, SR, B] w wd := (by rw [← hwq]; exact HO.out.drewN _); clear hwq HD HO c0 c1 c2 c3 c4 c5 c6 fR; obtain ⟨c0, c1, c2, c3, c4, c5, c6, fR⟩ := br_cells hD.1; have HD := hI hD; have HO := hI ho; clear hD ho
 clear hix
 go_wp2_with fail
 go_quiet (first | (go_at_call 318; refine Calls.quiet_of (buffered R B SR 0 0 .nilIface (-1) (-1) _ ?_ (by omega)); exact HD.out.1))
 generalize hwq : World.drewN wd nq = we; have hD : RdS we R B SR t 0 0 .nilIface (-1) (-1) zbuf 0 := (by rw [← hwq]; exact HD.out); have ho : Only [R, SR, B] w we := (by rw [← hwq]; exact HO.out.drewN _); clear hwq HD HO c0 c1 c2 c3 c4 c5 c6 fR; obtain ⟨c0, c1, c2, c3, c4, c5, c6, fR⟩ := br_cells hD.1; have HD := hI hD; have HO := hI ho; clear hD ho
 go_wp2_with fail
 go_quiet (fail)
 generalize hwq : World.drewN we nq = wf; have hD : RdS wf R B SR t 0 0 .nilIface (-1) (-1) zbuf 0 := (by rw [← hwq]; exact HD.out); have ho : Only [R, SR, B] w wf := (by rw [← hwq]; exact HO.out.drewN _); clear hwq HD HO c0 c1 c2 c3 c4 c5 c6 fR; obtain ⟨c0, c1, c2, c3, c4, c5, c6, fR⟩ := br_cells hD.1; have HD := hI hD; have HO := hI ho; clear hD ho
 clear c0 c1 c2 c3 c4 c5 c6 fR
 go_wp2_with (first | (go_at_call 276; refine (fill_first R B SR t _ HD.out.1 HD.out.2.1 HD.out.2.2 hRB hRS h0 (by omega)).mono ?_; rintro e wg ⟨rfl, g1, g2, g3, g4⟩))
 have hD : RdS wg R B SR t 0 (t.size : Int) .nilIface (-1) (-1) (bufRow t) (t.size : Int) := ⟨g1, g2, g3⟩
 have ho := HO.out.trans g4
 clear HD HO g1 g2 g3 g4
 obtain ⟨c0, c1, c2, c3, c4, c5, c6, fR⟩ := br_cells hD.1; have HD := hI hD; have HO := hI ho; clear hD ho
 rw [rounds_succ]
 have hix := fun q => Tryz.bytes_IndexByte B 0 t.size 4096 xs 10 (wg.drewN q) hx (fun i hi => by rw [Nat.zero_add, row_cell (w := wg.drewN q) HD.out.2.2]; exact hc i hi)
 replace hix := fun q => (show _ from (by have h := hix q; rw [show (10 : Int).toNat.toUInt8 = 10 from rfl, hk] at h; exact h : Calls Tryz.prog 317 #[.slice (some ⟨B, 0, none⟩) t.size 4096, .int .u8 10] (wg.drewN q) fun e w' => e = .returned (.int .i64 (k : Int)) ∧ w' = wg.drewN q))
 go_wp2_with fail
 go_quiet (first | (go_at_call 317; refine Calls.quiet_of_same (hix _)))
 generalize hwq : World.drewN wg nq = wi; have hD : RdS wi R B SR t 0 (t.size : Int) .nilIface (-1) (-1) (bufRow t) (t.size : Int) := (by rw [← hwq]; exact HD.out); have ho : Only [R, SR, B] w wi := (by rw [← hwq]; exact HO.out.drewN _); clear hwq HD HO c0 c1 c2 c3 c4 c5 c6 fR; obtain ⟨c0, c1, c2, c3, c4, c5, c6, fR⟩ := br_cells hD.1; have HD := hI hD; have HO := hI ho; clear hD ho
 clear hix
 go_wp2_with fail
 go_quiet (fail)
 generalize hwq : World.drewN wi nq = wj; have hD : RdS wj R B SR t 0 (t.size : Int) .nilIface (-1) (-1) (bufRow t) (t.size : Int) := (by rw [← hwq]; exact HD.out); have ho : Only [R, SR, B] w wj := (by rw [← hwq]; exact HO.out.drewN _); clear hwq HD HO c0 c1 c2 c3 c4 c5 c6 fR; obtain ⟨c0, c1, c2, c3, c4, c5, c6, fR⟩ := br_cells hD.1; have HD := hI hD; have HO := hI ho; clear hD ho
 have cB : wj.cell? ⟨B, k, none⟩ = some (.int .u8 10) := by rw [row_cell HD.out.2.2]; exact hl
 have e2 : ((k + 1 : Nat) : Int) - 1 = (k : Int) := by omega
 go_wp2_with fail
 refine bodyPost_ret (v := .tuple #[.slice (some ⟨B, 0, none⟩) (k + 1) 4096, .nilIface]) (by simp [results, Tryz.results306, go_sem]) rfl ?_
 have hR9 := br_lr (br_lb (br_r HD.out.1 ((k : Int) + 1)) 10) (-1)
 have ho9 := (((Only.refl [R] wj).setCell (p := ⟨R, 2, none⟩) (by simp) (.int .i64 ((k : Int) + 1))).setCell (p := ⟨R, 5, none⟩) (by simp) (.int .i64 10)).setCell (p := ⟨R, 6, none⟩) (by simp) (.int .i64 (-1))
 rw [show (k : Int) + 1 = ((k + 1 : Nat) : Int) by omega] at hR9 ho9 ⊢
 exact ⟨rfl, HD.out.only hRB hRS ho9 hR9, HO.out.trans (ho9.mono (by simp))⟩
structure Er (w : World) (ea ef : Addr) : Prop where
 size : 28 ≤ w.heap.size
 eof : w.cell? ⟨1, 0, none⟩ = some (.iface 188 (.pointer (some ea)))
 full : w.cell? ⟨16, 0, none⟩ = some (.iface 188 (.pointer (some ef)))
theorem Er.only {w w' : World} {S : List Nat} {ea ef : Addr} (h : Er w ea ef) (ho : Only S w w') (hS : ∀ k ∈ S, 28 ≤ k) : Er w' ea ef := by
 have h1 := h.size
 refine ⟨Nat.le_trans h1 ho.size, (ho.cell (by omega) ?_).trans h.eof, (ho.cell (by omega) ?_).trans h.full⟩ <;> (intro hk; have := hS _ hk; omega)
theorem eq_nil_err (ef : Addr) (w : World) : (Go.binOp .eql 61 .nilIface (.iface 188 (.pointer (some ef)))).run Tryz.prog w = .ok (.bool false) w := by kernel_rfl
theorem line_hit (R B SR r n k : Nat) (lb lr : Int) (cs : Array Value) (t : ByteArray) (i : Int) (ea ef : Addr) (xs : List Int) (w : World) (hD : RdS w R B SR t (r : Int) (n : Int) .nilIface lb lr cs i) (hE : Er w ea ef) (hRB : R ≠ B) (hRS : R ≠ SR) (hRG : 28 ≤ R) (hn : n ≤ 4096) (hcs : cs.size = 4096)
  (hx : xs.length = n - r) (hc : ∀ i, i < n - r → cs[r + i]? = some (.int .u8 (xs.getD i 0))) (hk : indexByte (bytesOf xs) 10 = (k + 1 : Nat)) (hk2 : r + k + 1 < n) (hl : cs[r + (k + 1)]? = some (.int .u8 10)) (hl2 : cs[r + k]? = some (.int .u8 13)) :
  Calls Tryz.prog 273 #[.pointer (some ⟨R, 0, none⟩)] w fun e w' => e = .returned (.tuple #[.slice (some ⟨B, r, none⟩) k (4096 - r), .bool false, .nilIface]) ∧ RdS w' R B SR t ((r + k + 2 : Nat) : Int) (n : Int) .nilIface 10 (-1) cs i ∧ Only [R] w w' := by
 have HD := hI hD
 have HE := hI hE
 clear hD hE
 have heq := eq_nil_err ef
 have e1 : ((k + 1 + 1 : Nat) : Int) - 1 = ((k + 1 : Nat) : Int) := by omega
 have e2 : ((k + 1 + 1 : Nat) : Int) - 2 = (k : Int) := by omega
 go_enter Tryz.func273, Tryz.ntmps273
 go_wp2_with (first | (go_at_call 306; refine (slice_hit R B SR r n (k + 1) lb lr cs xs _ HD.out.1 HD.out.2.2 hRB hn hcs hx hc hk (by omega) hl).mono ?_; rintro e wg ⟨rfl, g1, g2⟩; have hE := HE.out.only g2 (by simp; exact hRG); have hD := HD.out.only hRB hRS g2 g1; have hf := hE.full; have cB : wg.cell? ⟨B, r + (k + 1), none⟩ = some (.int .u8 10) := (by rw [row_cell hD.2.2]; exact hl); have cB2 : wg.cell? ⟨B, r + k, none⟩ = some (.int .u8 13) := (by rw [row_cell hD.2.2]; exact hl2)))
 refine bodyPost_ret (v := .tuple #[.slice (some ⟨B, r, none⟩) k (4096 - r), .bool false, .nilIface]) (by simp [results, Tryz.results273, go_sem]) rfl ?_
 rw [show r + (k + 1) + 1 = r + k + 2 by omega] at hD
 exact ⟨rfl, hD, g2⟩
theorem line_first (R B SR k : Nat) (t : ByteArray) (ea ef : Addr) (xs : List Int) (w : World) (hD : RdS w R B SR t 0 0 .nilIface (-1) (-1) zbuf 0) (hE : Er w ea ef) (hRB : R ≠ B) (hRS : R ≠ SR) (hRG : 28 ≤ R) (hSG : 28 ≤ SR) (hBG : 28 ≤ B) (h0 : 0 < t.size) (ht : t.size ≤ 4000)
  (hx : xs.length = t.size) (hc : ∀ i, i < t.size → (bufRow t)[i]? = some (.int .u8 (xs.getD i 0))) (hk : indexByte (bytesOf xs) 10 = (k + 1 : Nat)) (hk2 : k + 1 < t.size) (hl : (bufRow t)[k + 1]? = some (.int .u8 10)) (hl2 : (bufRow t)[k]? = some (.int .u8 13)) :
  Calls Tryz.prog 273 #[.pointer (some ⟨R, 0, none⟩)] w fun e w' => e = .returned (.tuple #[.slice (some ⟨B, 0, none⟩) k 4096, .bool false, .nilIface]) ∧ RdS w' R B SR t ((k + 2 : Nat) : Int) (t.size : Int) .nilIface 10 (-1) (bufRow t) (t.size : Int) ∧ Only [R, SR, B] w w' := by
 have HD := hI hD
 have HE := hI hE
 clear hD hE
 have heq := eq_nil_err ef
 have e1 : ((k + 1 + 1 : Nat) : Int) - 1 = ((k + 1 : Nat) : Int) := by omega
 have e2 : ((k + 1 + 1 : Nat) : Int) - 2 = (k : Int) := by omega
 go_enter Tryz.func273, Tryz.ntmps273
 go_wp2_with (first | (go_at_call 306; refine (slice_first R B SR (k + 1) t _ HD.out hRB hRS h0 ht xs hx hc hk hk2 hl).mono ?_; rintro e wg ⟨rfl, hD, g2⟩; have hE := HE.out.only g2 (by simp; omega); have hf := hE.full; have cB : wg.cell? ⟨B, k + 1, none⟩ = some (.int .u8 10) := (by rw [row_cell hD.2.2]; exact hl); have cB2 : wg.cell? ⟨B, k, none⟩ = some (.int .u8 13) := (by rw [row_cell hD.2.2]; exact hl2)))
 refine bodyPost_ret (v := .tuple #[.slice (some ⟨B, 0, none⟩) k 4096, .bool false, .nilIface]) (by simp [results, Tryz.results273, go_sem]) rfl ?_
 exact ⟨rfl, hD, g2⟩
theorem fullRune_none (B o c : Nat) (w : World) : Calls Tryz.prog 275 #[.slice (some ⟨B, o, none⟩) 0 c] w fun e w' => e = .returned (.bool false) ∧ w' = w := by
 go_enter Tryz.func275, Tryz.ntmps275
 go_wp2
 go_ret
 exact ⟨rfl, rfl⟩
theorem decodeRune_ascii (B o n c : Nat) (b : Int) (w : World) (h0 : 0 < n) (hb : 0 ≤ b ∧ b < 128) (hc : w.cell? ⟨B, o, none⟩ = some (.int .u8 b)) : Calls Tryz.prog 278 #[.slice (some ⟨B, o, none⟩) n c] w fun e w' => e = .returned (.tuple #[.int .i32 b, .int .i64 1]) ∧ w' = w := by
 go_enter Tryz.func278, Tryz.ntmps278
 go_wp2_with fail
 refine wp_loop_rounds 1 ?_
 rw [rounds_succ]
 go_wp2
 go_ret2
 exact ⟨rfl, rfl⟩
theorem RdS.r {w : World} {R B SR : Nat} {t : ByteArray} {r n : Int} {err : Value} {lb lr : Int} {cs : Array Value} {i : Int} (h : RdS w R B SR t r n err lb lr cs i) (hRB : R ≠ B) (hRS : R ≠ SR) (x : Int) : RdS (w.setCell ⟨R, 2, none⟩ (.int .i64 x)) R B SR t x n err lb lr cs i :=
 h.only hRB hRS ((Only.refl [R] w).setCell (p := ⟨R, 2, none⟩) (by simp) _) (br_r h.1 x)
theorem RdS.err {w : World} {R B SR : Nat} {t : ByteArray} {r n : Int} {err : Value} {lb lr : Int} {cs : Array Value} {i : Int} (h : RdS w R B SR t r n err lb lr cs i) (hRB : R ≠ B) (hRS : R ≠ SR) (x : Value) : RdS (w.setCell ⟨R, 4, none⟩ x) R B SR t r n x lb lr cs i :=
 h.only hRB hRS ((Only.refl [R] w).setCell (p := ⟨R, 4, none⟩) (by simp) _) (br_err h.1 x)
theorem RdS.lb {w : World} {R B SR : Nat} {t : ByteArray} {r n : Int} {err : Value} {lb lr : Int} {cs : Array Value} {i : Int} (h : RdS w R B SR t r n err lb lr cs i) (hRB : R ≠ B) (hRS : R ≠ SR) (x : Int) : RdS (w.setCell ⟨R, 5, none⟩ (.int .i64 x)) R B SR t r n err x lr cs i :=
 h.only hRB hRS ((Only.refl [R] w).setCell (p := ⟨R, 5, none⟩) (by simp) _) (br_lb h.1 x)
theorem RdS.lr {w : World} {R B SR : Nat} {t : ByteArray} {r n : Int} {err : Value} {lb lr : Int} {cs : Array Value} {i : Int} (h : RdS w R B SR t r n err lb lr cs i) (hRB : R ≠ B) (hRS : R ≠ SR) (x : Int) : RdS (w.setCell ⟨R, 6, none⟩ (.int .i64 x)) R B SR t r n err lb x cs i :=
 h.only hRB hRS ((Only.refl [R] w).setCell (p := ⟨R, 6, none⟩) (by simp) _) (br_lr h.1 x)
theorem rune_hit (R B SR r n : Nat) (lb lr : Int) (cs : Array Value) (t : ByteArray) (i b : Int) (w : World) (hD : RdS w R B SR t (r : Int) (n : Int) .nilIface lb lr cs i) (hRB : R ≠ B) (hRS : R ≠ SR) (hr : r + 4 ≤ n) (hn : n ≤ 4096) (hb : 0 ≤ b ∧ b < 128) (hl : cs[r]? = some (.int .u8 b)) :
  Calls Tryz.prog 211 #[.pointer (some ⟨R, 0, none⟩)] w fun e w' => e = .returned (.tuple #[.int .i32 b, .int .i64 1, .nilIface]) ∧ RdS w' R B SR t ((r + 1 : Nat) : Int) (n : Int) .nilIface b 1 cs i ∧ Only [R, SR, B] w w' := by
 have cB : w.cell? ⟨B, r, none⟩ = some (.int .u8 b) := by rw [row_cell hD.2.2]; exact hl
 have hg : ((n : Int) < (r : Int) + 4) = False := by simp; omega
 have HO := hI (Only.refl [R, SR, B] w); obtain ⟨c0, c1, c2, c3, c4, c5, c6, fR⟩ := br_cells hD.1; have HD := hI hD; clear hD
 go_enter Tryz.func211, Tryz.ntmps211
 go_wp2_with fail
 refine wp_loop_rounds 1 ?_
 rw [rounds_succ]
 go_wp2_with fail
 go_quiet (fail)
 generalize hwq : World.drewN w nq = wd; have hD : RdS wd R B SR t (r : Int) (n : Int) .nilIface lb lr cs i := (by rw [← hwq]; exact HD.out); have ho : Only [R, SR, B] w wd := (by rw [← hwq]; exact HO.out.drewN _); clear hwq HD HO c0 c1 c2 c3 c4 c5 c6 fR; obtain ⟨c0, c1, c2, c3, c4, c5, c6, fR⟩ := br_cells hD.1; have HD := hI hD; have HO := hI ho; clear hD ho
 go_wp2_with fail
 generalize hwq : World.setCell wd _ _ = we; have hD : RdS we R B SR t (r : Int) (n : Int) .nilIface lb (-1) cs i := (by rw [← hwq]; exact HD.out.lr hRB hRS (-1)); have ho : Only [R, SR, B] w we := (by rw [← hwq]; exact HO.out.setCell (p := ⟨R, 6, none⟩) (by simp) _); clear hwq HD HO c0 c1 c2 c3 c4 c5 c6 fR; obtain ⟨c0, c1, c2, c3, c4, c5, c6, fR⟩ := br_cells hD.1; have HD := hI hD; have HO := hI ho; clear hD ho
 have hne : ((r : Int) = (n : Int)) = False := by simp; omega
 go_quiet (fail)
 generalize hwq : World.drewN we nq = wf; have hD : RdS wf R B SR t (r : Int) (n : Int) .nilIface lb (-1) cs i := (by rw [← hwq]; exact HD.out); have ho : Only [R, SR, B] w wf := (by rw [← hwq]; exact HO.out.drewN _); clear hwq HD HO c0 c1 c2 c3 c4 c5 c6 fR; obtain ⟨c0, c1, c2, c3, c4, c5, c6, fR⟩ := br_cells hD.1; have HD := hI hD; have HO := hI ho; clear hD ho
 go_wp2_with fail
 have hdr := fun q => decodeRune_ascii B r (n - r) (4096 - r) b (wf.drewN q) (by omega) hb (by rw [row_cell (w := wf.drewN q) HD.out.2.2]; exact hl)
 go_quiet (first | (go_at_call 278; refine Calls.quiet_of_same (hdr _)))
 generalize hwq : World.drewN wf nq = wg; have hD : RdS wg R B SR t (r : Int) (n : Int) .nilIface lb (-1) cs i := (by rw [← hwq]; exact HD.out); have ho : Only [R, SR, B] w wg := (by rw [← hwq]; exact HO.out.drewN _); clear hwq HD HO c0 c1 c2 c3 c4 c5 c6 fR; obtain ⟨c0, c1, c2, c3, c4, c5, c6, fR⟩ := br_cells hD.1; have HD := hI hD; have HO := hI ho; clear hD ho
 clear hdr
 go_wp2_with fail
 generalize hwq : World.setCell wg _ _ = wh; have hD : RdS wh R B SR t ((r : Int) + 1) (n : Int) .nilIface lb (-1) cs i := (by rw [← hwq]; exact HD.out.r hRB hRS ((r : Int) + 1)); have ho : Only [R, SR, B] w wh := (by rw [← hwq]; exact HO.out.setCell (p := ⟨R, 2, none⟩) (by simp) _); clear hwq HD HO c0 c1 c2 c3 c4 c5 c6 fR; obtain ⟨c0, c1, c2, c3, c4, c5, c6, fR⟩ := br_cells hD.1; have HD := hI hD; have HO := hI ho; clear hD ho
 have e1 : (r : Int) + 1 - 1 = (r : Int) := by omega
 have cB : wh.cell? ⟨B, r, none⟩ = some (.int .u8 b) := by rw [row_cell HD.out.2.2]; exact hl
 go_wp2_with fail
 go_region
 generalize hwq : World.drew _ = wi; have hD : RdS wi R B SR t ((r : Int) + 1) (n : Int) .nilIface b (-1) cs i := (by rw [← hwq]; exact HD.out.lb hRB hRS b); have ho : Only [R, SR, B] w wi := (by rw [← hwq]; exact (HO.out.setCell (p := ⟨R, 5, none⟩) (by simp) _).drew); clear hwq HD HO c0 c1 c2 c3 c4 c5 c6 fR; obtain ⟨c0, c1, c2, c3, c4, c5, c6, fR⟩ := br_cells hD.1; have HD := hI hD; have HO := hI ho; clear hD ho
 clear cB
 go_wp2_with fail
 go_ret3
 have h9 := HD.out.lr hRB hRS 1
 rw [show (r : Int) + 1 = ((r + 1 : Nat) : Int) by omega] at h9
 exact ⟨rfl, h9, HO.out.setCell (p := ⟨R, 6, none⟩) (by simp) _⟩
theorem unread (R B SR r : Nat) (n : Int) (b : Int) (cs : Array Value) (t : ByteArray) (i : Int) (w : World) (hD : RdS w R B SR t ((r + 1 : Nat) : Int) n .nilIface b 1 cs i) (hRB : R ≠ B) (hRS : R ≠ SR) (hr : r < 4096) :
  Calls Tryz.prog 212 #[.pointer (some ⟨R, 0, none⟩)] w fun e w' => e = .returned .nilIface ∧ RdS w' R B SR t (r : Int) n .nilIface (-1) (-1) cs i ∧ Only [R, SR, B] w w' := by
 have hg : (((r + 1 : Nat) : Int) < 1) = False := by simp; omega
 have e1 : ((r + 1 : Nat) : Int) - 1 = (r : Int) := by omega
 have hb : ((r + 1 : Nat) : Int) ≤ 4096 := by omega
 have HO := hI (Only.refl [R, SR, B] w); obtain ⟨c0, c1, c2, c3, c4, c5, c6, fR⟩ := br_cells hD.1; have HD := hI hD; clear hD
 go_enter Tryz.func212, Tryz.ntmps212
 go_wp2_with fail
 try (go_quiet (fail))
 go_wp2_with fail
 generalize hwq : World.drewN w nq = wd; have hD : RdS wd R B SR t ((r + 1 : Nat) : Int) n .nilIface b 1 cs i := (by rw [← hwq]; exact HD.out); have ho : Only [R, SR, B] w wd := (by rw [← hwq]; exact HO.out.drewN _); clear hwq HD HO c0 c1 c2 c3 c4 c5 c6 fR; obtain ⟨c0, c1, c2, c3, c4, c5, c6, fR⟩ := br_cells hD.1; have HD := hI hD; have HO := hI ho; clear hD ho
 go_region
 generalize hwq : World.drew _ = we; have hD : RdS we R B SR t (r : Int) n .nilIface b 1 cs i := (by rw [← hwq]; exact HD.out.r hRB hRS (r : Int)); have ho : Only [R, SR, B] w we := (by rw [← hwq]; exact (HO.out.setCell (p := ⟨R, 2, none⟩) (by simp) _).drew); clear hwq HD HO c0 c1 c2 c3 c4 c5 c6 fR; obtain ⟨c0, c1, c2, c3, c4, c5, c6, fR⟩ := br_cells hD.1; have HD := hI hD; have HO := hI ho; clear hD ho
 go_wp2_with fail
 go_ret
 exact ⟨rfl, (HD.out.lb hRB hRS (-1)).lr hRB hRS (-1), (HO.out.setCell (p := ⟨R, 5, none⟩) (by simp) _).setCell (p := ⟨R, 6, none⟩) (by simp) _⟩
theorem readErr (R B SR : Nat) (r n : Int) (b lr : Int) (e0 : Value) (cs : Array Value) (t : ByteArray) (i : Int) (w : World) (hD : RdS w R B SR t r n e0 b lr cs i) (hRB : R ≠ B) (hRS : R ≠ SR) :
  Calls Tryz.prog 277 #[.pointer (some ⟨R, 0, none⟩)] w fun e w' => e = .returned e0 ∧ RdS w' R B SR t r n .nilIface b lr cs i ∧ Only [R, SR, B] w w' := by
 have HO := hI (Only.refl [R, SR, B] w); obtain ⟨c0, c1, c2, c3, c4, c5, c6, fR⟩ := br_cells hD.1; have HD := hI hD; clear hD
 go_enter Tryz.func277, Tryz.ntmps277
 go_wp2_with fail
 try (go_quiet (fail))
 try (go_wp2_with fail)
 go_ret
 exact ⟨rfl, HD.out.err hRB hRS .nilIface, HO.out.setCell (p := ⟨R, 4, none⟩) (by simp) _⟩
theorem rune_end (R B SR : Nat) (t : ByteArray) (lb lr : Int) (ea ef : Addr) (w : World) (hD : RdS w R B SR t (t.size : Int) (t.size : Int) .nilIface lb lr (bufRow t) (t.size : Int)) (hE : Er w ea ef) (hRB : R ≠ B) (hRS : R ≠ SR) (hRG : 28 ≤ R) (hSG : 28 ≤ SR) (hBG : 28 ≤ B) (h0 : 0 < t.size) (ht : t.size ≤ 4000) :
  Calls Tryz.prog 211 #[.pointer (some ⟨R, 0, none⟩)] w fun e w' => e = .returned (.tuple #[.int .i32 0, .int .i64 0, .iface 188 (.pointer (some ea))]) ∧ RdS w' R B SR t 0 0 .nilIface lb (-1) (bufRow t) (t.size : Int) ∧ Only [R, SR, B] w w' := by
 have HE := hI hE
 clear hE
 have hG3 : ∀ k ∈ [R, SR, B], 28 ≤ k := by simp; omega
 have hg : ((t.size : Int) < (t.size : Int) + 4) = True := by simp; omega
 have hz : t.size - t.size = 0 := by omega
 have HO := hI (Only.refl [R, SR, B] w); obtain ⟨c0, c1, c2, c3, c4, c5, c6, fR⟩ := br_cells hD.1; have HD := hI hD; clear hD
 go_enter Tryz.func211, Tryz.ntmps211
 go_wp2_with fail
 refine wp_loop_rounds 2 ?_
 rw [rounds_succ]
 go_wp2_with fail
 go_quiet (first | (go_at_call 275; refine Calls.quiet_of_same (fullRune_none _ _ _ _)))
 generalize hwq : World.drewN w nq = wd; have hD : RdS wd R B SR t (t.size : Int) (t.size : Int) .nilIface lb lr (bufRow t) (t.size : Int) := (by rw [← hwq]; exact HD.out); have ho : Only [R, SR, B] w wd := (by rw [← hwq]; exact HO.out.drewN _); clear hwq HD HO c0 c1 c2 c3 c4 c5 c6 fR; obtain ⟨c0, c1, c2, c3, c4, c5, c6, fR⟩ := br_cells hD.1; have HD := hI hD; have HO := hI ho; clear hD ho
 clear c0 c1 c2 c3 c4 c5 c6 fR
 go_wp2_with (first | (go_at_call 276; refine (fill_end R B SR t lb lr ea _ HD.out.1 HD.out.2.1 hRS h0 ht (HE.out.only HO.out hG3).eof (HE.out.only HO.out hG3).size hRG).mono ?_; rintro e wg ⟨rfl, g1, g2⟩))
 have hD := HD.out.only hRB hRS g2 g1
 have ho := HO.out.trans (g2.mono (S' := [R, SR, B]) (by simp))
 clear HD HO g1 g2
 obtain ⟨c0, c1, c2, c3, c4, c5, c6, fR⟩ := br_cells hD.1; have HD := hI hD; have HO := hI ho; clear hD ho
 rw [rounds_succ]
 go_wp2_with fail
 go_quiet (first | (go_at_call 275; refine Calls.quiet_of_same (fullRune_none _ _ _ _)))
 generalize hwq : World.drewN wg nq = wh; have hD : RdS wh R B SR t 0 0 (.iface 188 (.pointer (some ea))) lb lr (bufRow t) (t.size : Int) := (by rw [← hwq]; exact HD.out); have ho : Only [R, SR, B] w wh := (by rw [← hwq]; exact HO.out.drewN _); clear hwq HD HO c0 c1 c2 c3 c4 c5 c6 fR; obtain ⟨c0, c1, c2, c3, c4, c5, c6, fR⟩ := br_cells hD.1; have HD := hI hD; have HO := hI ho; clear hD ho
 go_wp2_with fail
 generalize hwq : World.setCell wh _ _ = wi; have hD : RdS wi R B SR t 0 0 (.iface 188 (.pointer (some ea))) lb (-1) (bufRow t) (t.size : Int) := (by rw [← hwq]; exact HD.out.lr hRB hRS (-1)); have ho : Only [R, SR, B] w wi := (by rw [← hwq]; exact HO.out.setCell (p := ⟨R, 6, none⟩) (by simp) _); clear hwq HD HO c0 c1 c2 c3 c4 c5 c6 fR; obtain ⟨c0, c1, c2, c3, c4, c5, c6, fR⟩ := br_cells hD.1; have HD := hI hD; have HO := hI ho; clear hD ho
 go_quiet (fail)
 generalize hwq : World.drewN wi nq = wj; have hD : RdS wj R B SR t 0 0 (.iface 188 (.pointer (some ea))) lb (-1) (bufRow t) (t.size : Int) := (by rw [← hwq]; exact HD.out); have ho : Only [R, SR, B] w wj := (by rw [← hwq]; exact HO.out.drewN _); clear hwq HD HO c0 c1 c2 c3 c4 c5 c6 fR; obtain ⟨c0, c1, c2, c3, c4, c5, c6, fR⟩ := br_cells hD.1; have HD := hI hD; have HO := hI ho; clear hD ho
 clear c0 c1 c2 c3 c4 c5 c6 fR
 go_wp2_with (first | (go_at_call 277; refine (readErr R B SR 0 0 lb (-1) (.iface 188 (.pointer (some ea))) (bufRow t) t (t.size : Int) _ HD.out hRB hRS).mono ?_; rintro e wk ⟨rfl, g1, g2⟩))
 go_ret3
 exact ⟨rfl, g1, HO.out.trans g2⟩
end Go.Proofs.YtcllaplddebilaaGreatDoor
end
section
namespace Go.Proofs.YtcllaplddebilaaGreatDoor
open Go.RowKit Go.Sort
attribute [local go_sem] cell?_grow frozen?_grow cell?_redrawn frozen?_redrawn size_redrawn size_grow ba_get ba_extract
attribute [local simp] size_redrawn
open Go.Lib Go.Shelf
theorem copyCheck_fresh (b : Nat) (w : World) (h0 : w.cell? ⟨b, 0, none⟩ = some (.pointer none)) (hsh : w.shape? b = some (332, 2)) (hfz : w.frozen? ⟨b, 0, none⟩ = false) :
  Calls Tryz.prog 274 #[.pointer (some ⟨b, 0, none⟩)] w fun e w' => e = .returned (.tuple #[]) ∧ w' = w.setCell ⟨b, 0, none⟩ (.pointer (some ⟨b, 0, none⟩)) := by
 obtain ⟨j, hj, hjs⟩ := Option.map_eq_some_iff.1 Tryz.Builder_Extra_169.toX72.sizeBuilder
 have hto := Lib.run_to_unsafe (P := Tryz.prog) w ⟨b, 0, none⟩ Tryz.underlying330 Tryz.underlying422 hj (by rw [hjs]; decide) hsh (Nat.zero_lt_succ 1)
 have hfrom := Lib.run_from_unsafe (P := Tryz.prog) w ⟨b, 0, none⟩ Tryz.underlying422 Tryz.underlying330 hj hsh Tryz.Builder_Extra_169.toX72.liesBuilder
 go_enter Tryz.func274, Tryz.ntmps274
 go_wp2
 rw [run_callFunc_extern Tryz.func307 (by kernel_rfl) (by kernel_rfl) (by kernel_rfl) (e := Extern.AbiNoEscape.same) (by kernel_rfl)]
 rw [Lib.run_noEscape]
 simp only [Result.andThen]
 rw [Oper.upon_value]
 go_wp2
 go_end0
 exact ⟨rfl, rfl⟩
theorem copyCheck (B b : Nat) (bs : List Value) (w : World) (h : Lib.BuilderAt 332 5 B b (.pointer none) bs w) :
  Calls Tryz.prog 274 #[.pointer (some ⟨b, 0, none⟩)] w fun e w' => e = .returned (.tuple #[]) ∧ (Lib.BuilderAt 332 5 B b (.pointer (some ⟨b, 0, none⟩)) bs w' ∧ Below B w w') := by
 refine (copyCheck_fresh b w h.cell0 h.shape h.frozen0).mono ?_
 rintro e w' ⟨rfl, rfl⟩
 exact ⟨rfl, h.used _, (Below.refl B w).setCell (p := ⟨b, 0, none⟩) h.1 _⟩
theorem bwrite (B b : Nat) (bs : List Value) (ad : Addr) (m c : Nat) (news : List Value) (w : World) (h : Lib.BuilderAt 332 5 B b (.pointer none) bs w)
  (hl : news.length = m) (hnews : ∀ j u, news[j]? = some u → w.cell? (ad.add j) = some u) (hadB : ad.block < B) (h1 : ∀ u ∈ news, u.oneCell' = true)
  (hlen : bs.length + m ≤ 140737488355328) (hBw : B ≤ w.heap.size) :
  Calls Tryz.prog 210 #[.pointer (some ⟨b, 0, none⟩), .slice (some ad) m c] w fun e w' => e = .returned (.tuple #[.int .i64 m, .nilIface]) ∧ (Lib.BuilderAt 332 5 B b (.pointer (some ⟨b, 0, none⟩)) (bs ++ news) w' ∧ Below B w w') := by
 have hib := Tryz.Builder_Extra_169.infoByte
 have hne5 := Tryz.Builder_Extra_169.neB5
 obtain ⟨i0, hi, hz0, hz1, hz2⟩ := info_parts hib
 go_enter Tryz.func210, Tryz.ntmps210
 go_wp2_with (go_at_call 274; refine (copyCheck B b bs _ h).mono ?_)
 rintro e w1 ⟨rfl, h1', hb1⟩
 obtain ⟨hB, v, hbk, hown, hne⟩ := h1'
 have c0 : w1.cell? ⟨b, 0, none⟩ = some (.pointer (some ⟨b, 0, none⟩)) := by rw [Lib.cell_of_heap hbk]; rfl
 have c1 : w1.cell? ⟨b, 1, none⟩ = some v := by rw [Lib.cell_of_heap hbk]; rfl
 have hnews1 : ∀ j u, news[j]? = some u → w1.cell? (ad.add j) = some u := fun j u hj => by rw [hb1.cell (p := ad.add j) (by unfold Addr.add; split <;> exact hadB)]; exact hnews j u hj
 go_wp2_with (at_builtin; refine wpList_append_own _ rfl _ _ 213 rfl B 5 i0 (.int .u8 0) 1 1 Tryz.underlying213 hi hz0 hz1 hz2 rfl (by decide) _ _ _ rfl hown ad m c news rfl (by omega) hnews1 h1 ?c3 ?c4 ?c5 ?_)
 case c3 => unfold maxLen; omega
 case c4 => omega
 case c5 => have := hb1.size; omega
 intro v' w2 hown' hgrow _
 have hlt : b < w1.heap.size := by
  rcases Nat.lt_or_ge b w1.heap.size with h' | h'
  ·exact h'
  ·simp [Array.getElem?_eq_none h'] at hbk
 have hb2 : w2.heap[b]? = some (.cells #[.pointer (some ⟨b, 0, none⟩), v] 332) := by
  rw [hgrow.block b hlt (fun e => hne e.symm)]
  exact hbk
 have d0 : w2.cell? ⟨b, 0, none⟩ = some (.pointer (some ⟨b, 0, none⟩)) := by rw [Lib.cell_of_heap hb2]; rfl
 have d1 : w2.cell? ⟨b, 1, none⟩ = some v := by rw [Lib.cell_of_heap hb2]; rfl
 have f1 : w2.frozen? ⟨b, 1, none⟩ = false := Lib.frozen_of_heap hb2 1
 obtain ⟨ao, n', cap, rfl⟩ : ∃ ao n' cap, v' = .slice ao n' cap := by
  rcases hown'.2 with ⟨hv, _⟩ | ⟨g, cap, cur, hv, _⟩
  ·exact ⟨_, _, _, hv⟩
  ·exact ⟨_, _, _, hv⟩
 go_wp2
 go_ret2
 refine ⟨rfl, ?_, ?_⟩
 ·exact Lib.BuilderAt.put (T := 332) (e := 5) hB hb2 (bs' := bs ++ news) (by simpa [hl] using hown') hne5
 ·exact (hb1.grown hgrow (by have := hb1.size; omega) (fun k hk => (hown.lt k hk).1)).setCell (p := ⟨b, 1, none⟩) hB _
end Go.Proofs.YtcllaplddebilaaGreatDoor
end
section
namespace Go.Proofs.YtcllaplddebilaaGreatDoor
open Go.RowKit Go.Sort
attribute [local go_sem] cell?_grow frozen?_grow cell?_redrawn frozen?_redrawn size_redrawn size_grow ba_get ba_extract
attribute [local simp] size_redrawn
open Go.Lib
structure Pl (D R B SR : Nat) : Prop where
 rb : R ≠ B
 rs : R ≠ SR
 dr : D ≠ R
 db : D ≠ B
 ds : D ≠ SR
 gr : 28 ≤ R
 gb : 28 ≤ B
 gs : 28 ≤ SR
 gd : 28 ≤ D
def DecB (w : World) (D R : Nat) : Prop := w.heap[D]? = some (.cells #[.pointer (some ⟨R, 0, none⟩)] 176)
theorem DecB.cell {w : World} {D R : Nat} (h : DecB w D R) : w.cell? ⟨D, 0, none⟩ = some (.pointer (some ⟨R, 0, none⟩)) := by rw [cell_blk h]; rfl
theorem DecB.only {w w' : World} {D R B SR : Nat} (h : DecB w D R) (p : Pl D R B SR) (ho : Only [R, SR, B] w w') : DecB w' D R :=
 ho.blk h (by simp; exact ⟨p.dr, p.ds, p.db⟩)
theorem Er.pl {w w' : World} {ea ef : Addr} {D R B SR : Nat} (h : Er w ea ef) (p : Pl D R B SR) (ho : Only [R, SR, B] w w') : Er w' ea ef :=
 h.only ho (by simp; exact ⟨p.gr, p.gs, p.gb⟩)
theorem sub1 {R SR B : Nat} {w w' : World} (h : Only [R] w w') : Only [R, SR, B] w w' := h.mono (by simp)
theorem rl_first (D R B SR k : Nat) (t : ByteArray) (ea ef : Addr) (xs : List Int) (w : World) (hD : RdS w R B SR t 0 0 .nilIface (-1) (-1) zbuf 0) (hDB : DecB w D R) (hE : Er w ea ef) (p : Pl D R B SR) (h0 : 0 < t.size) (ht : t.size ≤ 4000)
  (hx : xs.length = t.size) (hc : ∀ i, i < t.size → (bufRow t)[i]? = some (.int .u8 (xs.getD i 0))) (hk : indexByte (bytesOf xs) 10 = (k + 1 : Nat)) (hk2 : k + 1 < t.size) (hl : (bufRow t)[k + 1]? = some (.int .u8 10)) (hl2 : (bufRow t)[k]? = some (.int .u8 13)) :
  Calls Tryz.prog 209 #[.pointer (some ⟨D, 0, none⟩)] w fun e w' => e = .returned (.tuple #[.slice (some ⟨B, 0, none⟩) k 4096, .nilIface]) ∧ RdS w' R B SR t ((k + 2 : Nat) : Int) (t.size : Int) .nilIface 10 (-1) (bufRow t) (t.size : Int) ∧ Only [R, SR, B] w w' := by
 have cD := hDB.cell
 have HD := hI hD
 clear hD hDB
 go_enter Tryz.func209, Tryz.ntmps209
 go_wp2_with fail
 refine wp_loop_rounds 1 ?_
 rw [rounds_succ]
 go_wp2_with (first | (go_at_call 273; refine (line_first R B SR k t ea ef xs _ HD.out hE p.rb p.rs p.gr p.gs p.gb h0 ht hx hc hk hk2 hl hl2).mono ?_; rintro e wg ⟨rfl, g1, g2⟩))
 go_ret2
 exact ⟨rfl, g1, g2⟩
theorem rl_hit (D R B SR r n k : Nat) (lb lr : Int) (cs : Array Value) (t : ByteArray) (i : Int) (ea ef : Addr) (xs : List Int) (w : World) (hD : RdS w R B SR t (r : Int) (n : Int) .nilIface lb lr cs i) (hDB : DecB w D R) (hE : Er w ea ef) (p : Pl D R B SR) (hn : n ≤ 4096) (hcs : cs.size = 4096)
  (hx : xs.length = n - r) (hc : ∀ i, i < n - r → cs[r + i]? = some (.int .u8 (xs.getD i 0))) (hk : indexByte (bytesOf xs) 10 = (k + 1 : Nat)) (hk2 : r + k + 1 < n) (hl : cs[r + (k + 1)]? = some (.int .u8 10)) (hl2 : cs[r + k]? = some (.int .u8 13)) :
  Calls Tryz.prog 209 #[.pointer (some ⟨D, 0, none⟩)] w fun e w' => e = .returned (.tuple #[.slice (some ⟨B, r, none⟩) k (4096 - r), .nilIface]) ∧ RdS w' R B SR t ((r + k + 2 : Nat) : Int) (n : Int) .nilIface 10 (-1) cs i ∧ Only [R, SR, B] w w' := by
 have cD := hDB.cell
 have HD := hI hD
 clear hD hDB
 go_enter Tryz.func209, Tryz.ntmps209
 go_wp2_with fail
 refine wp_loop_rounds 1 ?_
 rw [rounds_succ]
 go_wp2_with (first | (go_at_call 273; refine (line_hit R B SR r n k lb lr cs t i ea ef xs _ HD.out hE p.rb p.rs p.gr hn hcs hx hc hk hk2 hl hl2).mono ?_; rintro e wg ⟨rfl, g1, g2⟩))
 go_ret2
 exact ⟨rfl, g1, sub1 g2⟩
theorem builder_only {T e : TypeId} {B0 b : Nat} {p : Value} {bs : List Value} {w w' : World} {S : List Nat} (h : Lib.BuilderAt T e B0 b p bs w) (ho : Only S w w') (hS : ∀ k, k ∈ S → k < B0) : Lib.BuilderAt T e B0 b p bs w' := by
 obtain ⟨hB, v, hb, hown, hne⟩ := h
 refine ⟨hB, v, ho.blk hb (fun hk => by have := hS _ hk; omega), ⟨hown.1, ?_⟩, hne⟩
 rcases hown.2 with h1 | ⟨g, cap, cur, e1, e2, e3, e4⟩
 ·exact Or.inl h1
 ·exact Or.inr ⟨g, cap, cur, e1, e2, ho.blk e3 (fun hk => by have := hS _ hk; omega), e4⟩
theorem only_below {S : List Nat} {w w1 w' : World} (h : Only S w w1) (hb : Below w.heap.size w1 w') : Only S w w' :=
 ⟨hb.os.trans h.os, hb.tape.trans h.tape, hb.output.trans h.output, Nat.le_trans h.size hb.size, fun k hk hn => (hb.block k hk).trans (h.block k hk hn)⟩
theorem only_up {S : List Nat} {w w1 w' : World} (hb : Below w.heap.size w w1) (h : Only S w1 w') : Only S w w' :=
 (Only.of_below hb).trans h
theorem RdS.lts {w : World} {R B SR : Nat} {t : ByteArray} {r n : Int} {err : Value} {lb lr : Int} {cs : Array Value} {i : Int} (h : RdS w R B SR t r n err lb lr cs i) : R < w.heap.size ∧ SR < w.heap.size ∧ B < w.heap.size :=
 ⟨lt_blk h.1, lt_blk h.2.1, lt_blk h.2.2⟩
theorem RdS.below {w w' : World} {R B SR B0 : Nat} {t : ByteArray} {r n : Int} {err : Value} {lb lr : Int} {cs : Array Value} {i : Int} (h : RdS w R B SR t r n err lb lr cs i) (hb : Below B0 w w') (h1 : R < B0) (h2 : SR < B0) (h3 : B < B0) : RdS w' R B SR t r n err lb lr cs i :=
 ⟨(hb.block _ h1).trans h.1, (hb.block _ h2).trans h.2.1, (hb.block _ h3).trans h.2.2⟩
theorem DecB.below {w w' : World} {D R B0 : Nat} (h : DecB w D R) (hb : Below B0 w w') (h1 : D < B0) : DecB w' D R := (hb.block _ h1).trans h
theorem Er.below {w w' : World} {ea ef : Addr} {B0 : Nat} (h : Er w ea ef) (hb : Below B0 w w') (h1 : 28 ≤ B0) : Er w' ea ef := by
 refine ⟨Nat.le_trans h.size hb.size, (hb.cell (p := ⟨1, 0, none⟩) (by show _ < _; simp; omega)).trans h.eof, (hb.cell (p := ⟨16, 0, none⟩) (by show _ < _; simp; omega)).trans h.full⟩
def LineC (D R B SR : Nat) (t : ByteArray) (ea ef : Addr) (r n lb lr i : Int) (cs : Array Value) (o k cap : Nat) (r2 n2 i2 : Int) (cs2 : Array Value) : Prop :=
 ∀ w : World, RdS w R B SR t r n .nilIface lb lr cs i → DecB w D R → Er w ea ef → Calls Tryz.prog 209 #[.pointer (some ⟨D, 0, none⟩)] w fun e w' => e = .returned (.tuple #[.slice (some ⟨B, o, none⟩) k cap, .nilIface]) ∧ RdS w' R B SR t r2 n2 .nilIface 10 (-1) cs2 i2 ∧ Only [R, SR, B] w w'
theorem rcl_mid (D R B SR : Nat) (t : ByteArray) (ea ef : Addr) (r n lb lr i : Int) (cs : Array Value) (o k cap r2 n2 : Nat) (i2 : Int) (cs2 : Array Value) (l : List UInt8) (b : Int) (w : World) (p : Pl D R B SR)
  (hL : LineC D R B SR t ea ef r n lb lr i cs o k cap (r2 : Int) (n2 : Int) i2 cs2) (hD : RdS w R B SR t r n .nilIface lb lr cs i) (hDB : DecB w D R) (hE : Er w ea ef)
  (hl : l.length = k) (h0 : l ≠ []) (hk : k ≤ 4096) (hcl : ∀ j u, (byteCells l)[j]? = some u → cs2[o + j]? = some u)
  (hr : r2 + 4 ≤ n2) (hn : n2 ≤ 4096) (hb : 0 ≤ b ∧ b < 128) (hb1 : b ≠ 32) (hb2 : b ≠ 9) (hlb : cs2[r2]? = some (.int .u8 b)) :
  Calls Tryz.prog 156 #[.pointer (some ⟨D, 0, none⟩)] w fun e w' => e = .returned (.tuple #[.string ⟨l.toArray⟩, .nilIface]) ∧ RdS w' R B SR t (r2 : Int) (n2 : Int) .nilIface (-1) (-1) cs2 i2 ∧ Only [R, SR, B] w w' := by
 have hlt := hD.lts
 have hltD : D < w.heap.size := lt_blk hDB
 have hG := hE.size
 have cD := hDB.cell
 have HD := hI hD
 have HDB := hI hDB
 have HE := hI hE
 have hbw : Below w.heap.size w (w.alloc (.cells #[.pointer none, .slice none 0 0] 332)) := (Below.refl _ _).alloc (Nat.le_refl _) _
 have hbl : Lib.BuilderAt 332 5 w.heap.size w.heap.size (.pointer none) [] (w.alloc (.cells #[.pointer none, .slice none 0 0] 332)) := ⟨Nat.le_refl _, .slice none 0 0, heap_alloc_new w _, World.ownsRow_nil _ _ _ _, by simp [Value.ownBlock]⟩
 clear hD hDB hE
 go_enter Tryz.func156, Tryz.ntmps156
 go_wp2_with fail
 generalize hw1 : w.alloc (Obj.cells #[Value.pointer none, Value.slice none 0 0] 332) = w1 at hbw hbl ⊢
 have hs1 : w.heap.size ≤ w1.heap.size := hbw.size
 clear hw1
 go_at_call 209
 refine (hL w1 (HD.out.below hbw hlt.1 hlt.2.1 hlt.2.2) (HDB.out.below hbw hltD) (HE.out.below hbw hG)).mono ?_
 rintro e w2 ⟨rfl, g1, g2⟩
 have hbl2 := builder_only hbl g2 (by simp; omega)
 have ho2 : Only [R, SR, B] w w2 := only_up hbw g2
 have hs2 : w.heap.size ≤ w2.heap.size := ho2.size
 have hnews : ∀ j u, (byteCells l)[j]? = some u → w2.cell? ((⟨B, o, none⟩ : Addr).add j) = some u := fun j u hj => by have h := (row_cell g1.2.2 (o + j)).trans (hcl j u hj); (unfold Addr.add; split; (rename_i hj0; subst hj0; exact h); exact h)
 have H1 := hI hbl2
 have H2 := hI hnews
 have H3 := hI g1
 have H4 := hI ho2
 clear hbl2 hnews g1 g2 ho2 hbl hbw
 go_wp2_with fail
 go_at_call 210
 refine (bwrite w.heap.size w.heap.size [] ⟨B, o, none⟩ k cap (byteCells l) w2 H1.out (by rw [byteCells_length, hl]) H2.out hlt.2.2 (by intro u hu; simp [byteCells] at hu; obtain ⟨_, _, rfl⟩ := hu; rfl) (by simp; omega) hs2).mono ?_
 rintro e w3 ⟨rfl, h5, h6⟩
 have hD3 := H3.out.below h6 hlt.1 hlt.2.1 hlt.2.2
 have hDB3 : DecB w3 D R := (HDB.out.only p H4.out).below h6 hltD
 have ho3 := only_below H4.out h6
 have cD3 := hDB3.cell
 clear H1 H2 H3 H4 h6
 have H1 := hI h5
 have H3 := hI hD3
 have H4 := hI ho3
 clear h5 hD3 ho3 hDB3 cD
 go_wp2_with fail
 refine wp_loop_rounds 1 ?_
 rw [rounds_succ]
 have heq := eq_nil_err ea
 have q1 : (b != 32) = true := by simp; exact hb1
 have q2 : (b != 9) = true := by simp; exact hb2
 go_wp2_with fail
 go_at_call 211
 refine (rune_hit R B SR r2 n2 10 (-1) cs2 t i2 b w3 H3.out p.rb p.rs hr hn hb hlb).mono ?_
 rintro e w4 ⟨rfl, g1, g2⟩
 have hE4 : Er w4 ea ef := HE.out.pl p (H4.out.trans g2)
 have hDB4 : DecB w4 D R := HDB.out.only p (H4.out.trans g2)
 have hbl4 := builder_only H1.out g2 (by simp; omega)
 have ho4 := H4.out.trans g2
 have cE := hE4.eof
 have cD4 := hDB4.cell
 clear H1 H3 H4 g2 cD3
 have H1 := hI hbl4
 have H3 := hI g1
 have H4 := hI ho4
 clear hbl4 g1 ho4 hE4 hDB4
 go_wp2_with fail
 go_at_call 212
 refine (unread R B SR r2 (n2 : Int) b cs2 t i2 w4 H3.out p.rb p.rs (by omega)).mono ?_
 rintro e w5 ⟨rfl, g1, g2⟩
 have hbl5 := builder_only H1.out g2 (by simp; omega)
 have ho5 := H4.out.trans g2
 have hs5 : w.heap.size ≤ w5.heap.size := ho5.size
 clear H1 H3 H4 g2 cD4 cE
 have H1 := hI hbl5
 have H3 := hI g1
 have H4 := hI ho5
 clear hbl5 g1 ho5
 go_wp2_with fail
 go_at_call 213
 refine (Tryz.Builder_String w.heap.size w.heap.size l w5 (Or.inr (by simpa using H1.out)) h0).mono ?_
 rintro e w6 ⟨rfl, h6⟩
 go_wp2
 go_ret2
 exact ⟨rfl, H3.out.below h6 hlt.1 hlt.2.1 hlt.2.2, only_below H4.out h6⟩
theorem info_err : (Tryz.prog.info? 188).map (·.comparable) = some true := by kernel_rfl
theorem info_errs : (Tryz.prog.info? 190).isSome = true := by kernel_rfl
theorem eq_err_err (ea : Addr) (w : World) : (Go.binOp .eql 61 (.iface 188 (.pointer (some ea))) (.iface 188 (.pointer (some ea)))).run Tryz.prog w = .ok (.bool true) w := by
 obtain ⟨i, hi, hic⟩ := Option.map_eq_some_iff.1 info_err
 obtain ⟨j, hj⟩ := Option.isSome_iff_exists.1 info_errs
 exact run_eql_iface_ptr_same w ea Tryz.underlying61 Tryz.underlying188 hi hic hj
theorem rcl_last (D R B SR : Nat) (t : ByteArray) (ea ef : Addr) (r n lb lr i : Int) (cs : Array Value) (o k cap : Nat) (l : List UInt8) (w : World) (p : Pl D R B SR)
  (hL : LineC D R B SR t ea ef r n lb lr i cs o k cap (t.size : Int) (t.size : Int) (t.size : Int) (bufRow t)) (hD : RdS w R B SR t r n .nilIface lb lr cs i) (hDB : DecB w D R) (hE : Er w ea ef)
  (hl : l.length = k) (h0 : l ≠ []) (hk : k ≤ 4096) (hcl : ∀ j u, (byteCells l)[j]? = some u → (bufRow t)[o + j]? = some u)
  (ht0 : 0 < t.size) (ht : t.size ≤ 4000) :
  Calls Tryz.prog 156 #[.pointer (some ⟨D, 0, none⟩)] w fun e w' => e = .returned (.tuple #[.string ⟨l.toArray⟩, .nilIface]) ∧ RdS w' R B SR t 0 0 .nilIface 10 (-1) (bufRow t) (t.size : Int) ∧ Only [R, SR, B] w w' := by
 have hlt := hD.lts
 have hltD : D < w.heap.size := lt_blk hDB
 have hG := hE.size
 have cD := hDB.cell
 have HD := hI hD
 have HDB := hI hDB
 have HE := hI hE
 have hbw : Below w.heap.size w (w.alloc (.cells #[.pointer none, .slice none 0 0] 332)) := (Below.refl _ _).alloc (Nat.le_refl _) _
 have hbl : Lib.BuilderAt 332 5 w.heap.size w.heap.size (.pointer none) [] (w.alloc (.cells #[.pointer none, .slice none 0 0] 332)) := ⟨Nat.le_refl _, .slice none 0 0, heap_alloc_new w _, World.ownsRow_nil _ _ _ _, by simp [Value.ownBlock]⟩
 clear hD hDB hE
 go_enter Tryz.func156, Tryz.ntmps156
 go_wp2_with fail
 generalize hw1 : w.alloc (Obj.cells #[Value.pointer none, Value.slice none 0 0] 332) = w1 at hbw hbl ⊢
 have hs1 : w.heap.size ≤ w1.heap.size := hbw.size
 clear hw1
 go_at_call 209
 refine (hL w1 (HD.out.below hbw hlt.1 hlt.2.1 hlt.2.2) (HDB.out.below hbw hltD) (HE.out.below hbw hG)).mono ?_
 rintro e w2 ⟨rfl, g1, g2⟩
 have hbl2 := builder_only hbl g2 (by simp; omega)
 have ho2 : Only [R, SR, B] w w2 := only_up hbw g2
 have hs2 : w.heap.size ≤ w2.heap.size := ho2.size
 have hnews : ∀ j u, (byteCells l)[j]? = some u → w2.cell? ((⟨B, o, none⟩ : Addr).add j) = some u := fun j u hj => by have h := (row_cell g1.2.2 (o + j)).trans (hcl j u hj); (unfold Addr.add; split; (rename_i hj0; subst hj0; exact h); exact h)
 have H1 := hI hbl2
 have H2 := hI hnews
 have H3 := hI g1
 have H4 := hI ho2
 clear hbl2 hnews g1 g2 ho2 hbl hbw
 go_wp2_with fail
 go_at_call 210
 refine (bwrite w.heap.size w.heap.size [] ⟨B, o, none⟩ k cap (byteCells l) w2 H1.out (by rw [byteCells_length, hl]) H2.out hlt.2.2 (by intro u hu; simp [byteCells] at hu; obtain ⟨_, _, rfl⟩ := hu; rfl) (by simp; omega) hs2).mono ?_
 rintro e w3 ⟨rfl, h5, h6⟩
 have hD3 := H3.out.below h6 hlt.1 hlt.2.1 hlt.2.2
 have hDB3 : DecB w3 D R := (HDB.out.only p H4.out).below h6 hltD
 have ho3 := only_below H4.out h6
 have cD3 := hDB3.cell
 clear H1 H2 H3 H4 h6
 have H1 := hI h5
 have H3 := hI hD3
 have H4 := hI ho3
 clear h5 hD3 ho3 hDB3 cD
 go_wp2_with fail
 refine wp_loop_rounds 1 ?_
 rw [rounds_succ]
 have heq := eq_err_err ea
 go_wp2_with fail
 go_at_call 211
 refine (rune_end R B SR t 10 (-1) ea ef w3 H3.out (HE.out.pl p H4.out) p.rb p.rs p.gr p.gs p.gb ht0 ht).mono ?_
 rintro e w5 ⟨rfl, g1, g2⟩
 have hE5 : Er w5 ea ef := HE.out.pl p (H4.out.trans g2)
 have hbl5 := builder_only H1.out g2 (by simp; omega)
 have ho5 := H4.out.trans g2
 have hs5 : w.heap.size ≤ w5.heap.size := ho5.size
 have cE := hE5.eof
 clear H1 H3 H4 g2 cD3 hE5
 have H1 := hI hbl5
 have H3 := hI g1
 have H4 := hI ho5
 clear hbl5 g1 ho5
 go_wp2_with fail
 go_at_call 213
 refine (Tryz.Builder_String w.heap.size w.heap.size l w5 (Or.inr (by simpa using H1.out)) h0).mono ?_
 rintro e w6 ⟨rfl, h6⟩
 go_wp2
 go_ret2
 exact ⟨rfl, H3.out.below h6 hlt.1 hlt.2.1 hlt.2.2, only_below H4.out h6⟩
theorem indexAny (s : ByteArray) (n : Nat) (w : World) (hn : n < s.size) (ha : ∀ j (h : j < s.size), s[j].toNat < 128) (hN : s[n].toNat = 58) (hb : ∀ j (h : j < n), s[j].toNat ≠ 58 ∧ s[j].toNat ≠ 59) (hm : s.size ≤ 4294967296) :
  Calls Tryz.prog 279 #[.string s, .string { data := #[59, 58] }] w fun e w' => e = .returned (.int .i64 (n : Int)) ∧ Below w.heap.size w w' := by
 have HN := hI hN
 have HB := hI hb
 have HA := hI ha
 clear hN hb ha
 go_enter Tryz.func279, Tryz.ntmps279
 go_wp2_with fail
 go_loopg [5] (n + 1) (fun g _ wr => ∃ k : Nat, k ≤ n ∧ g = n + 1 - k ∧ wr.heap[w.heap.size]? = some (.stringIter s k) ∧ Below w.heap.size w wr)
 case atStart => exact ⟨0, by omega, rfl, World.iter_heap _ _ _, (Below.refl _ _).alloc (Nat.le_refl _) _⟩
 case round =>
  obtain ⟨k, hk, rfl, hit, hbel⟩ := hrel
  have hks : k < s.size := by omega
  have ha := HA.out k hks
  have hnx := fun ty => run_next_ascii_at (P := Tryz.prog) wr w.heap.size s k ty hit hks ha
  have hit2 := iterAt_heap wr w.heap.size s k (k + 1) hit
  have hb2 := below_iterAt hbel (Nat.le_refl w.heap.size) s (k + 1)
  have hsz : w.heap.size < wr.heap.size := (Array.getElem?_eq_some_iff.1 hit).1
  generalize wr.iterAt w.heap.size s (k + 1) = w2 at *
  have hsz2 : w.heap.size < w2.heap.size := (Array.getElem?_eq_some_iff.1 hit2).1
  have hn0 : ∀ ty, (Instr.next (.pointer (some ⟨w2.heap.size, 0, none⟩)) true ty).run Tryz.prog (w2.iter { data := #[59, 58] } 0) = .ok (.tuple #[.bool true, .int .i64 0, .int .i32 59]) (w2.iter { data := #[59, 58] } 1) := fun ty => run_next_ascii w2 { data := #[59, 58] } 0 ty (by decide) (by decide)
  have hn1 : ∀ ty, (Instr.next (.pointer (some ⟨w2.heap.size, 0, none⟩)) true ty).run Tryz.prog (w2.iter { data := #[59, 58] } 1) = .ok (.tuple #[.bool true, .int .i64 1, .int .i32 58]) (w2.iter { data := #[59, 58] } 2) := fun ty => run_next_ascii w2 { data := #[59, 58] } 1 ty (by decide) (by decide)
  have hn2 : ∀ ty, (Instr.next (.pointer (some ⟨w2.heap.size, 0, none⟩)) true ty).run Tryz.prog (w2.iter { data := #[59, 58] } 2) = .ok (.tuple #[.bool false]) (w2.iter { data := #[59, 58] } 2) := fun ty => run_next_end w2 { data := #[59, 58] } 2 ty (by decide)
  by_cases hkn : k = n
  ·subst hkn
   have h58 : ((s[k].toNat : Int) == 59) = false := by have := HN.out; simp; omega
   have h58' : ((s[k].toNat : Int) == 58) = true := by have := HN.out; simp; omega
   go_wp2
   refine wp_loop_rounds 2 ?_
   rw [rounds_succ]
   go_wp2
   rw [rounds_succ]
   go_wp2
   go_ret
   exact ⟨rfl, hb2.alloc (by omega) _⟩
  ·have hlt : k < n := by omega
   have h58 : ((s[k].toNat : Int) == 59) = false := by have := (HB.out k hlt).2; simp; omega
   have h58' : ((s[k].toNat : Int) == 58) = false := by have := (HB.out k hlt).1; simp; omega
   go_wp2
   refine wp_loop_rounds 3 ?_
   rw [rounds_succ]
   go_wp2
   rw [rounds_succ]
   go_wp2
   rw [rounds_succ]
   go_wp2
   go_roundg (n - k)
   case measure => omega
   case rel =>
    refine ⟨k + 1, by omega, by omega, ?_, hb2.alloc (by omega) _⟩
    show (w2.heap.push _)[w.heap.size]? = _
    rw [Array.getElem?_push, if_neg (by omega)]
    exact hit2
theorem decodeName_ok (s : ByteArray) (n L : Nat) (w : World) (hL : w.heap[L]? = some (.cells #[.string s] 286)) (h0 : 0 < n) (hn : n < s.size) (ha : ∀ j (h : j < s.size), s[j].toNat < 128) (hN : s[n].toNat = 58) (hb : ∀ j (h : j < n), s[j].toNat ≠ 58 ∧ s[j].toNat ≠ 59) (hm : s.size ≤ 4294967296) :
  Calls Tryz.prog 214 #[.pointer (some ⟨L, 0, none⟩)] w fun e w' => e = .returned (.tuple #[.string (upper (s.extract 0 n)), .nilIface]) ∧ w'.heap[L]? = some (.cells #[.string (s.extract n s.size)] 286) ∧ Only [L] w w' := by
 have hc0 : w.cell? ⟨L, 0, none⟩ = some (.string s) := by rw [cell_blk hL]; rfl
 have hf0 : w.frozen? ⟨L, 0, none⟩ = false := frozen_blk hL 0 (by omega)
 have hi := indexAny s n w hn ha hN hb hm
 have HA := hI ha
 have HN := hI hN
 have HB := hI hb
 have HL := hI hL
 clear ha hN hb hL
 go_enter Tryz.func214, Tryz.ntmps214
 go_wp2_with fail
 refine hi.mono ?_
 rintro e w1 ⟨rfl, hb1⟩
 have hL1 := (hb1.block L (lt_blk HL.out)).trans HL.out
 have hc1 : w1.cell? ⟨L, 0, none⟩ = some (.string s) := by rw [cell_blk hL1]; rfl
 have hf1 : w1.frozen? ⟨L, 0, none⟩ = false := frozen_blk hL1 0 (by omega)
 have HL1 := hI hL1
 clear hL1 hc0 hf0
 have hnz : ((n : Int) == 0) = false := by simp; omega
 go_wp2_with fail
 refine (upper_ical (s.extract 0 n) _ (by simp; omega)).mono ?_
 rintro e w2 ⟨rfl, hb2⟩
 have hL2 := (hb2.block L (lt_blk HL1.out)).trans HL1.out
 have hc2 : w2.cell? ⟨L, 0, none⟩ = some (.string s) := by rw [cell_blk hL2]; rfl
 have hf2 : w2.frozen? ⟨L, 0, none⟩ = false := frozen_blk hL2 0 (by omega)
 have hst := set_blk hL2 0 (.string (s.extract n s.size))
 have HL2 := hI hst
 clear hL2 hc1 hf1 hst
 go_wp2
 go_ret2
 exact ⟨rfl, HL2.out, (Only.of_below (Below.then hb1 hb2)).setCell (p := ⟨L, 0, none⟩) (List.mem_singleton.2 rfl) _⟩
theorem lconsume_no (s : ByteArray) (c : Int) (L : Nat) (w : World) (hL : w.heap[L]? = some (.cells #[.string s] 286)) (h0 : 0 < s.size) (hc : ((s[0].toNat : Int) == c) = false) (hm : s.size ≤ 4294967296) :
  Calls Tryz.prog 215 #[.pointer (some ⟨L, 0, none⟩), .int .u8 c] w fun e w' => e = .returned (.bool false) ∧ Below w.heap.size w w' := by
 have hc0 : w.cell? ⟨L, 0, none⟩ = some (.string s) := by rw [cell_blk hL]; rfl
 have hz : ((s.size : Int) == 0) = false := by rw [beq_eq_false_iff_ne]; omega
 have hne := ba_ne h0
 have hcn : ((s[0].toNat : Int) != c) = true := by simp at hc; simpa using hc
 clear hL
 go_enter Tryz.func215, Tryz.ntmps215
 go_wp2
 go_ret
 exact ⟨rfl, by (repeat (first | exact Below.refl _ _ | (refine below_drewN ?_ _) | (refine Below.trans ?_ ((below_regrown _ _ _).mono (by simp <;> omega))) | (refine Below.drew ?_) | (refine Below.alloc ?_ (by simp <;> omega) _) | (refine Below.setCell ?_ (by simp <;> omega) _) | assumption))⟩
theorem lconsume_yes (s : ByteArray) (c : Int) (L : Nat) (w : World) (hL : w.heap[L]? = some (.cells #[.string s] 286)) (h0 : 0 < s.size) (hc : ((s[0].toNat : Int) == c) = true) (hm : s.size ≤ 4294967296) :
  Calls Tryz.prog 215 #[.pointer (some ⟨L, 0, none⟩), .int .u8 c] w fun e w' => e = .returned (.bool true) ∧ w'.heap[L]? = some (.cells #[.string (s.extract 1 s.size)] 286) ∧ Only [L] w w' := by
 have hc0 : w.cell? ⟨L, 0, none⟩ = some (.string s) := by rw [cell_blk hL]; rfl
 have hf0 : w.frozen? ⟨L, 0, none⟩ = false := frozen_blk hL 0 (by omega)
 have hz : ((s.size : Int) == 0) = false := by rw [beq_eq_false_iff_ne]; omega
 have hne := ba_ne h0
 have hcn : ((s[0].toNat : Int) != c) = false := by simp at hc; simpa using hc
 have HL := hI (set_blk hL 0 (.string (s.extract 1 s.size)))
 clear hL
 go_enter Tryz.func215, Tryz.ntmps215
 go_wp2
 go_ret
 exact ⟨rfl, HL.out, Only.setCell (S := [L]) (p := ⟨L, 0, none⟩) (Only.refl _ _) (List.mem_singleton.2 rfl) _⟩
def LinePost (w : World) (L : Nat) (name rest : ByteArray) (e : Ending) (w' : World) : Prop := ∃ p M : Nat, e = .returned (.tuple #[.pointer (some ⟨p, 0, none⟩), .nilIface]) ∧ L < p ∧ L < M ∧
 w'.heap[p]? = some (.cells #[.string name, .map (some M), .string rest] 116) ∧ w'.heap[M]? = some (.map #[] 0) ∧ Only [L] w w'
theorem contentLine (s : ByteArray) (n L : Nat) (w : World) (hL : w.heap[L]? = some (.cells #[.string s] 286)) (h0 : 0 < n) (hn : n < s.size) (ha : ∀ j (h : j < s.size), s[j].toNat < 128) (hN : s[n].toNat = 58) (hb : ∀ j (h : j < n), s[j].toNat ≠ 58 ∧ s[j].toNat ≠ 59) (hm : s.size ≤ 4294967296) :
  Calls Tryz.prog 157 #[.pointer (some ⟨L, 0, none⟩)] w (LinePost w L (upper (s.extract 0 n)) (s.extract (n + 1) s.size)) := by
 have hmm := @run_makeMap Tryz.prog
 have hdn := decodeName_ok s n L w hL h0 hn ha hN hb hm
 obtain ⟨t, ht, t0, t58, tnext, tsz⟩ := txt_at s n hn
 rw [ht] at hdn
 rw [← tnext]
 have h1 : ((t[0].toNat : Int) == 59) = false := by rw [t58, beq_eq_false_iff_ne]; omega
 have h2 : ((t[0].toNat : Int) == 58) = true := by rw [t58, beq_iff_eq]; omega
 have H1 := hI h1
 have H2 := hI h2
 have htm : t.size ≤ 4294967296 := by omega
 clear ha hN hb hL ht t58 tnext h1 h2
 go_enter Tryz.func157, Tryz.ntmps157
 go_wp2_with fail
 refine hdn.mono ?_
 rintro e w1 ⟨rfl, hL1, hb1⟩
 have hltL := lt_blk hL1
 have HL1 := hI hL1
 clear hL1
 go_wp2_with fail
 refine wp_loop_rounds 1 ?_
 rw [rounds_succ]
 have hL2 := old_blk HL1.out (.map #[] 0)
 go_wp2_with fail
 refine (lconsume_no t 59 L _ hL2 t0 H1.out htm).mono ?_
 rintro e w2 ⟨rfl, hb2⟩
 have hL3 := (hb2.block L (lt_blk hL2)).trans hL2
 have hM3 := (hb2.block w1.heap.size (lt_blk (new_blk w1 (.map #[] 0)))).trans (new_blk w1 (.map #[] 0))
 have hz2 := hb2.size
 clear hL2
 have HL3 := hI hL3
 have HM3 := hI hM3
 clear hL3 hM3
 go_wp2_with fail
 refine (lconsume_yes t 58 L _ HL3.out t0 H2.out htm).mono ?_
 rintro e w3 ⟨rfl, hL4, hb3⟩
 have HL4 := hI hL4
 have hc4 : w3.cell? ⟨L, 0, none⟩ = some (.string (t.extract 1 t.size)) := by rw [cell_blk hL4]; rfl
 clear hL4
 have hM4 := hb3.blk HM3.out (by simp; omega)
 have hall : Only [L] w w3 := ((hb1.alloc (.map #[] 0)).trans (Only.of_below hb2)).trans hb3
 have HM4 := hI hM4
 clear hM4
 go_wp2_with fail
 go_ret2
 have hz1 := hb1.size
 have hz3 := hb3.size
 simp at hz2
 refine ⟨_, _, rfl, ?_, ?_, new_blk _ _, old_blk HM4.out _, hall.alloc _⟩
 ·omega
 ·omega
def DclPost (w : World) (R B SR : Nat) (t : ByteArray) (r2 n2 lb lr : Int) (cs2 : Array Value) (i2 : Int) (name rest : ByteArray) (e : Ending) (w' : World) : Prop := ∃ q M : Nat, e = .returned (.tuple #[.pointer (some ⟨q, 0, none⟩), .nilIface]) ∧ w.heap.size ≤ q ∧ w.heap.size ≤ M ∧
 w'.heap[q]? = some (.cells #[.string name, .map (some M), .string rest] 116) ∧ w'.heap[M]? = some (.map #[] 0) ∧ RdS w' R B SR t r2 n2 .nilIface lb lr cs2 i2 ∧ Only [R, SR, B] w w'
theorem dcl (D R B SR : Nat) (t : ByteArray) (r n : Int) (lb0 lr0 : Int) (cs : Array Value) (i : Int) (r2 n2 lb lr : Int) (cs2 : Array Value) (i2 : Int) (s : ByteArray) (m : Nat) (w : World) (hD : RdS w R B SR t r n .nilIface lb0 lr0 cs i)
  (hC : Calls Tryz.prog 156 #[.pointer (some ⟨D, 0, none⟩)] w fun e w' => e = .returned (.tuple #[.string s, .nilIface]) ∧ RdS w' R B SR t r2 n2 .nilIface lb lr cs2 i2 ∧ Only [R, SR, B] w w')
  (h0 : 0 < m) (hn : m < s.size) (ha : ∀ j (h : j < s.size), s[j].toNat < 128) (hN : s[m].toNat = 58) (hb : ∀ j (h : j < m), s[j].toNat ≠ 58 ∧ s[j].toNat ≠ 59) (hm : s.size ≤ 4294967296) :
  Calls Tryz.prog 114 #[.pointer (some ⟨D, 0, none⟩)] w (DclPost w R B SR t r2 n2 lb lr cs2 i2 (upper (s.extract 0 m)) (s.extract (m + 1) s.size)) := by
 have hlt := hD.lts
 have hz : ((s.size : Int) == 0) = false := by rw [beq_eq_false_iff_ne]; omega
 clear hD
 go_enter Tryz.func114, Tryz.ntmps114
 go_wp2_with fail
 refine wp_loop_rounds 1 ?_
 rw [rounds_succ]
 go_wp2_with fail
 go_at_call 156
 refine hC.mono ?_
 rintro e w1 ⟨rfl, g1, g2⟩
 have hs1 := g2.size
 clear hC
 have H1 := hI g1
 have H2 := hI g2
 clear g1 g2
 go_wp2_with fail
 go_at_call 157
 refine (contentLine s m w1.heap.size _ (new_blk w1 _) h0 hn ha hN hb hm).mono ?_
 rintro e w2 ⟨q, M, rfl, l1, l2, k1, k2, k3⟩
 have hbe : Below w1.heap.size w1 w2 := Below.trans ((Below.refl _ _).alloc (Nat.le_refl _) _) (k3.below (B := w1.heap.size) (by simp) (by simp))
 go_wp2
 go_ret2
 exact ⟨q, M, rfl, by omega, by omega, k1, k2, H1.out.below hbe (by omega) (by omega) (by omega), only_below H2.out (hbe.mono hs1)⟩
def awk : ByteArray := { data := #[66, 69, 71, 73, 78, 58, 86, 67, 65, 76, 69, 78, 68, 65, 82, 13, 10, 80, 82, 79, 68, 73, 68, 58, 120, 13, 10, 69, 78, 68, 58, 86, 67, 65, 76, 69, 78, 68, 65, 82, 13, 10] }
theorem bufRow_get (t : ByteArray) (i : Nat) (hi : i < t.size) : (bufRow t)[i]? = some (.int .u8 ((t.data.toList.map fun b => (b.toNat : Int)).getD i 0)) := by
 have hi2 : i < t.data.toList.length := by simpa using hi
 have hi3 : i < t.data.size := hi
 unfold bufRow txtCells
 simp [List.getElem?_append, hi3]
 rw [if_pos hi, Array.getElem?_eq_getElem hi3]
 rfl
theorem bufRow_size (t : ByteArray) (ht : t.size ≤ 4096) : (bufRow t).size = 4096 := by
 have h := txtCells_length t
 unfold bufRow
 simp [h, zbuf_size]
 omega
def xs1 : List Int := [66, 69, 71, 73, 78, 58, 86, 67, 65, 76, 69, 78, 68, 65, 82, 13, 10, 80, 82, 79, 68, 73, 68, 58, 120, 13, 10, 69, 78, 68, 58, 86, 67, 65, 76, 69, 78, 68, 65, 82, 13, 10]
def xs2 : List Int := [80, 82, 79, 68, 73, 68, 58, 120, 13, 10, 69, 78, 68, 58, 86, 67, 65, 76, 69, 78, 68, 65, 82, 13, 10]
def xs3 : List Int := [69, 78, 68, 58, 86, 67, 65, 76, 69, 78, 68, 65, 82, 13, 10]
theorem awk_cell (i : Nat) (hi : i < 42) : (bufRow awk)[i]? = some (.int .u8 (xs1.getD i 0)) := bufRow_get awk i hi
theorem awk_cell2 (i : Nat) (hi : i < 25) : (bufRow awk)[17 + i]? = some (.int .u8 (xs2.getD i 0)) := by
 rw [awk_cell _ (by omega)]
 exact congrArg some (congrArg (Value.int .u8) ((by decide : ∀ i : Fin 25, xs1.getD (17 + i.val) 0 = xs2.getD i.val 0) ⟨i, hi⟩))
theorem awk_cell3 (i : Nat) (hi : i < 15) : (bufRow awk)[27 + i]? = some (.int .u8 (xs3.getD i 0)) := by
 rw [awk_cell _ (by omega)]
 exact congrArg some (congrArg (Value.int .u8) ((by decide : ∀ i : Fin 15, xs1.getD (27 + i.val) 0 = xs3.getD i.val 0) ⟨i, hi⟩))
theorem ix1 : indexByte (bytesOf xs1) 10 = (15 + 1 : Nat) := by decide
theorem ix2 : indexByte (bytesOf xs2) 10 = (8 + 1 : Nat) := by decide
theorem ix3 : indexByte (bytesOf xs3) 10 = (13 + 1 : Nat) := by decide
theorem lc1 (D R B SR : Nat) (ea ef : Addr) (p : Pl D R B SR) : LineC D R B SR awk ea ef 0 0 (-1) (-1) 0 zbuf 0 15 4096 17 42 42 (bufRow awk) := fun w h1 h2 h3 =>
 rl_first D R B SR 15 awk ea ef xs1 w h1 h2 h3 p (by decide) (by decide) rfl awk_cell ix1 (by decide) (awk_cell 16 (by decide)) (awk_cell 15 (by decide))
theorem lc2 (D R B SR : Nat) (ea ef : Addr) (p : Pl D R B SR) : LineC D R B SR awk ea ef 17 42 (-1) (-1) 42 (bufRow awk) 17 8 4079 27 42 42 (bufRow awk) := fun w h1 h2 h3 =>
 rl_hit D R B SR 17 42 8 (-1) (-1) (bufRow awk) awk 42 ea ef xs2 w h1 h2 h3 p (by decide) (bufRow_size _ (by decide)) rfl awk_cell2 ix2 (by decide) (awk_cell2 9 (by decide)) (awk_cell2 8 (by decide))
theorem lc3 (D R B SR : Nat) (ea ef : Addr) (p : Pl D R B SR) : LineC D R B SR awk ea ef 27 42 (-1) (-1) 42 (bufRow awk) 27 13 4069 42 42 42 (bufRow awk) := fun w h1 h2 h3 =>
 rl_hit D R B SR 27 42 13 (-1) (-1) (bufRow awk) awk 42 ea ef xs3 w h1 h2 h3 p (by decide) (bufRow_size _ (by decide)) rfl awk_cell3 ix3 (by decide) (awk_cell3 14 (by decide)) (awk_cell3 13 (by decide))
theorem upper_list (l : List UInt8) : upper ⟨l.toArray⟩ = ⟨(l.map upB).toArray⟩ := by simp [upper]
def ln1 : List UInt8 := [66, 69, 71, 73, 78, 58, 86, 67, 65, 76, 69, 78, 68, 65, 82]
def nm1 : ByteArray := { data := #[66, 69, 71, 73, 78] }
def vl1 : ByteArray := { data := #[86, 67, 65, 76, 69, 78, 68, 65, 82] }
theorem nm1_eq : upper ((⟨ln1.toArray⟩ : ByteArray).extract 0 5) = nm1 := by
 rw [show (⟨ln1.toArray⟩ : ByteArray).extract 0 5 = ⟨([66, 69, 71, 73, 78] : List UInt8).toArray⟩ by decide, upper_list]
 decide
theorem vl1_eq : (⟨ln1.toArray⟩ : ByteArray).extract (5 + 1) (⟨ln1.toArray⟩ : ByteArray).size = vl1 := by decide
def ln2 : List UInt8 := [80, 82, 79, 68, 73, 68, 58, 120]
def nm2 : ByteArray := { data := #[80, 82, 79, 68, 73, 68] }
def vl2 : ByteArray := { data := #[120] }
theorem nm2_eq : upper ((⟨ln2.toArray⟩ : ByteArray).extract 0 6) = nm2 := by
 rw [show (⟨ln2.toArray⟩ : ByteArray).extract 0 6 = ⟨([80, 82, 79, 68, 73, 68] : List UInt8).toArray⟩ by decide, upper_list]
 decide
theorem vl2_eq : (⟨ln2.toArray⟩ : ByteArray).extract (6 + 1) (⟨ln2.toArray⟩ : ByteArray).size = vl2 := by decide
def ln3 : List UInt8 := [69, 78, 68, 58, 86, 67, 65, 76, 69, 78, 68, 65, 82]
def nm3 : ByteArray := { data := #[69, 78, 68] }
def vl3 : ByteArray := { data := #[86, 67, 65, 76, 69, 78, 68, 65, 82] }
theorem nm3_eq : upper ((⟨ln3.toArray⟩ : ByteArray).extract 0 3) = nm3 := by
 rw [show (⟨ln3.toArray⟩ : ByteArray).extract 0 3 = ⟨([69, 78, 68] : List UInt8).toArray⟩ by decide, upper_list]
 decide
theorem vl3_eq : (⟨ln3.toArray⟩ : ByteArray).extract (3 + 1) (⟨ln3.toArray⟩ : ByteArray).size = vl3 := by decide
theorem byteCells_at (l : List UInt8) (j : Nat) (u : Value) (h : (byteCells l)[j]? = some u) : j < l.length ∧ u = .int .u8 (((l.getD j 0).toNat : Nat) : Int) := by
 unfold byteCells at h
 rw [List.getElem?_map] at h
 rcases hj : l[j]? with _ | b
 ·rw [hj] at h; cases h
 ·rw [hj] at h
  have hlt := (List.getElem?_eq_some_iff.1 hj).1
  refine ⟨hlt, ?_⟩
  simp only [Option.map_some, Option.some.injEq] at h
  rw [← h, List.getD_eq_getElem?_getD, hj]
  rfl
theorem cl1 : ∀ j u, (byteCells ln1)[j]? = some u → (bufRow awk)[0 + j]? = some u := by
 intro j u h
 obtain ⟨h1, rfl⟩ := byteCells_at _ _ _ h
 have h2 : j < 15 := h1
 rw [Nat.zero_add, awk_cell j (by omega)]
 exact congrArg some (congrArg (Value.int .u8) ((by decide : ∀ j : Fin 15, xs1.getD j.val 0 = (((ln1.getD j.val 0).toNat : Nat) : Int)) ⟨j, h2⟩))
theorem cl2 : ∀ j u, (byteCells ln2)[j]? = some u → (bufRow awk)[17 + j]? = some u := by
 intro j u h
 obtain ⟨h1, rfl⟩ := byteCells_at _ _ _ h
 have h2 : j < 8 := h1
 rw [awk_cell2 j (by omega)]
 exact congrArg some (congrArg (Value.int .u8) ((by decide : ∀ j : Fin 8, xs2.getD j.val 0 = (((ln2.getD j.val 0).toNat : Nat) : Int)) ⟨j, h2⟩))
theorem cl3 : ∀ j u, (byteCells ln3)[j]? = some u → (bufRow awk)[27 + j]? = some u := by
 intro j u h
 obtain ⟨h1, rfl⟩ := byteCells_at _ _ _ h
 have h2 : j < 13 := h1
 rw [awk_cell3 j (by omega)]
 exact congrArg some (congrArg (Value.int .u8) ((by decide : ∀ j : Fin 13, xs3.getD j.val 0 = (((ln3.getD j.val 0).toNat : Nat) : Int)) ⟨j, h2⟩))
theorem dl1 (D R B SR : Nat) (ea ef : Addr) (w : World) (p : Pl D R B SR) (hD : RdS w R B SR awk 0 0 .nilIface (-1) (-1) zbuf 0) (hDB : DecB w D R) (hE : Er w ea ef) :
  Calls Tryz.prog 114 #[.pointer (some ⟨D, 0, none⟩)] w (DclPost w R B SR awk 17 42 (-1) (-1) (bufRow awk) 42 nm1 vl1) := by
 have hC := rcl_mid D R B SR awk ea ef 0 0 (-1) (-1) 0 zbuf 0 15 4096 17 42 42 (bufRow awk) ln1 80 w p (lc1 D R B SR ea ef p) hD hDB hE rfl (by decide) (by decide) cl1 (by decide) (by decide) (by decide) (by decide) (by decide) (awk_cell 17 (by decide))
 have h := dcl D R B SR awk 0 0 (-1) (-1) zbuf 0 17 42 (-1) (-1) (bufRow awk) 42 ⟨ln1.toArray⟩ 5 w hD hC (by decide) (by decide) (by decide) (by decide) (by decide) (by decide)
 rw [nm1_eq, vl1_eq] at h
 exact h
theorem dl2 (D R B SR : Nat) (ea ef : Addr) (w : World) (p : Pl D R B SR) (hD : RdS w R B SR awk 17 42 .nilIface (-1) (-1) (bufRow awk) 42) (hDB : DecB w D R) (hE : Er w ea ef) :
  Calls Tryz.prog 114 #[.pointer (some ⟨D, 0, none⟩)] w (DclPost w R B SR awk 27 42 (-1) (-1) (bufRow awk) 42 nm2 vl2) := by
 have hC := rcl_mid D R B SR awk ea ef 17 42 (-1) (-1) 42 (bufRow awk) 17 8 4079 27 42 42 (bufRow awk) ln2 69 w p (lc2 D R B SR ea ef p) hD hDB hE rfl (by decide) (by decide) cl2 (by decide) (by decide) (by decide) (by decide) (by decide) (awk_cell 27 (by decide))
 have h := dcl D R B SR awk 17 42 (-1) (-1) (bufRow awk) 42 27 42 (-1) (-1) (bufRow awk) 42 ⟨ln2.toArray⟩ 6 w hD hC (by decide) (by decide) (by decide) (by decide) (by decide) (by decide)
 rw [nm2_eq, vl2_eq] at h
 exact h
theorem dl3 (D R B SR : Nat) (ea ef : Addr) (w : World) (p : Pl D R B SR) (hD : RdS w R B SR awk 27 42 .nilIface (-1) (-1) (bufRow awk) 42) (hDB : DecB w D R) (hE : Er w ea ef) :
  Calls Tryz.prog 114 #[.pointer (some ⟨D, 0, none⟩)] w (DclPost w R B SR awk 0 0 10 (-1) (bufRow awk) 42 nm3 vl3) := by
 have hC := rcl_last D R B SR awk ea ef 27 42 (-1) (-1) 42 (bufRow awk) 27 13 4069 ln3 w p (lc3 D R B SR ea ef p) hD hDB hE rfl (by decide) (by decide) cl3 (by decide) (by decide)
 have h := dcl D R B SR awk 27 42 (-1) (-1) (bufRow awk) 42 0 0 10 (-1) (bufRow awk) 42 ⟨ln3.toArray⟩ 3 w hD hC (by decide) (by decide) (by decide) (by decide) (by decide) (by decide)
 rw [nm3_eq, vl3_eq] at h
 exact h
def nmVC : ByteArray := { data := #[86, 67, 65, 76, 69, 78, 68, 65, 82] }
theorem cell_setmap (x : World) (r : Nat) (o : Obj) (b k : Nat) (h : b ≠ r) : ({ x with heap := x.heap.setIfInBounds r o } : World).cell? ⟨b, k, none⟩ = x.cell? ⟨b, k, none⟩ := by
 have e : (x.heap.setIfInBounds r o)[b]? = x.heap[b]? := by rw [Array.getElem?_setIfInBounds, if_neg (fun e => h e.symm)]
 simp only [World.cell?, e]
theorem below_setmap {B : Nat} {a x : World} (h : Below B a x) (r : Nat) (o : Obj) (hr : B ≤ r) : Below B a { x with heap := x.heap.setIfInBounds r o } :=
 ⟨h.os, h.tape, h.output, by simpa using h.size, fun k hk => by
  show (x.heap.setIfInBounds r o)[k]? = _
  rw [Array.getElem?_setIfInBounds, if_neg (by omega)]
  exact h.block k hk⟩
theorem setmap_at (x : World) (r : Nat) (o o' : Obj) (h : x.heap[r]? = some o') : (x.heap.setIfInBounds r o)[r]? = some o := by
 have hlt := lt_blk h
 simp [hlt]
theorem setmap_other (x : World) (r k : Nat) (o : Obj) (h : k ≠ r) : (x.heap.setIfInBounds r o)[k]? = x.heap[k]? := by
 rw [Array.getElem?_setIfInBounds, if_neg (fun e => h e.symm)]
def BodyPost (w : World) (R B SR : Nat) (e : Ending) (w' : World) : Prop := ∃ C P0 g cap M : Nat, ∃ cur : Array Value, e = .returned (.tuple #[.pointer (some ⟨C, 0, none⟩), .nilIface]) ∧ w.heap.size ≤ C ∧ w.heap.size ≤ P0 ∧ w.heap.size ≤ g ∧ w.heap.size ≤ M ∧
 w'.heap[C]? = some (.cells #[.string nmVC, .map (some P0), .slice none 0 0] 110) ∧ w'.heap[P0]? = some (.map #[{ key := .string nm2, val := .slice (some ⟨g, 0, none⟩) 1 cap, born := 0 }] 1) ∧
 w'.heap[g]? = some (.cells cur 116 (0, 0)) ∧ cur.toList.take 3 = [.string nm2, .map (some M), .string vl2] ∧ w'.heap[M]? = some (.map #[] 0) ∧ Only [R, SR, B] w w'
theorem info_prop : (Tryz.prog.info? 116).map (fun i => (i.zero, i.size, i.bytes)) = some (some (.agg #[.string { data := #[] }, .map none, .string { data := #[] }]), 3, 40) := by kernel_rfl
theorem body (D R B SR : Nat) (ea ef : Addr) (w : World) (p : Pl D R B SR) (hD : RdS w R B SR awk 17 42 .nilIface (-1) (-1) (bufRow awk) 42) (hDB : DecB w D R) (hE : Er w ea ef) :
  Calls Tryz.prog 115 #[.pointer (some ⟨D, 0, none⟩), .string nmVC] w (BodyPost w R B SR) := by
 have hmm := @run_makeMap Tryz.prog
 have hlw := hD.lts
 have hltD : D < w.heap.size := lt_blk hDB
 have hG := hE.size
 have hbe : Below w.heap.size w (w.alloc (.map #[] 0)) := (Below.refl _ _).alloc (Nat.le_refl _) _
 have hM := new_blk w (.map #[] 0)
 go_enter Tryz.func115, Tryz.ntmps115
 go_wp2
 go_step3
 go_wp2_with fail
 go_step3
 go_wp2_with fail
 refine wp_loop_rounds 2 ?_
 rw [rounds_succ]
 go_wp2_with fail
 generalize hw1 : w.alloc (.map #[] 0) = w1 at hbe hM ⊢
 have hs1 : w.heap.size < w1.heap.size := by rw [← hw1]; simp
 clear hw1
 go_at_call 114
 refine (dl2 D R B SR ea ef w1 p (hD.below hbe hlw.1 hlw.2.1 hlw.2.2) (hDB.below hbe hltD) (hE.below hbe hG)).mono ?_
 rintro e w2 ⟨q, M, rfl, l1, l2, k1, k2, k3, k4⟩
 have cq0 : w2.cell? ⟨q, 0, none⟩ = some (.string nm2) := by rw [cell_blk k1]; rfl
 have cq1 : w2.cell? ⟨q, 1, none⟩ = some (.map (some M)) := by rw [cell_blk k1]; rfl
 have cq2 : w2.cell? ⟨q, 2, none⟩ = some (.string vl2) := by rw [cell_blk k1]; rfl
 have hM2 : w2.heap[w.heap.size]? = some (.map #[] 0) := k4.blk hM (by simp; omega)
 have hne1 : (nm2.toList == [66, 69, 71, 73, 78]) = false := by rw [Lib.toList_data]; decide
 have hne3 : (nm2.toList == [69, 78, 68]) = false := by rw [Lib.toList_data]; decide
 have H1 := hI k1
 have H2 := hI k2
 have H3 := hI k3
 have H4 := hI k4
 have H5 := hI hM2
 have HO2 := hI (only_up hbe k4)
 clear k1 k2 k3 k4 hM2 hM hbe
 go_wp2_with fail
 have hlook : ∀ x : World, x.heap[w.heap.size]? = some (.map #[] 0) → (Instr.lookup 107 (.map (some w.heap.size)) (.string nm2) false).run Tryz.prog x = .ok (.slice none 0 0) x := fun x hx => lookup_miss (w := x) false (.slice none 0 0) Tryz.underlying107 Tryz.underlying9 hx rfl (by kernel_rfl)
 have hupd : ∀ (x : World) (v : Value), x.heap[w.heap.size]? = some (.map #[] 0) → (Instr.mapUpdate 107 (.map (some w.heap.size)) (.string nm2) v).run Tryz.prog x = .ok () { x with heap := x.heap.setIfInBounds w.heap.size (.map #[{ key := .string nm2, val := v, born := 0 }] 1) } := fun x v hx => update_miss (w := x) v Tryz.underlying107 Tryz.underlying9 hx rfl
 obtain ⟨i0, hi0, hz0, hz1, hz2⟩ := info_parts info_prop
 have hqlt : q < w2.heap.size := lt_blk H1.out
 have hMlt : w.heap.size < w2.heap.size := lt_blk H5.out
 have hc5 := H5.out
 have hl5 := hlook w2 hc5
 have hl6 := hlook w2.drew hc5
 have hl7 : ∀ o : Obj, (Instr.lookup 107 (.map (some w.heap.size)) (.string nm2) false).run Tryz.prog (w2.alloc o) = .ok (.slice none 0 0) (w2.alloc o) := fun o => hlook _ (old_blk hc5 o)
 have hl8 : ∀ o : Obj, (Instr.lookup 107 (.map (some w.heap.size)) (.string nm2) false).run Tryz.prog (w2.alloc o).drew = .ok (.slice none 0 0) (w2.alloc o).drew := fun o => hlook _ (old_blk hc5 o)
 have hqM : q ≠ w.heap.size := by omega
 go_region_held3 (fun w' => w'.cell? ⟨q, 0, none⟩ = some (.string nm2) ∧ w'.cell? ⟨q, 1, none⟩ = some (.map (some M)) ∧ w'.cell? ⟨q, 2, none⟩ = some (.string vl2))
  (first
   | (go_split_ands; exact ⟨by go_keep, by go_keep, by go_keep⟩)
   | (go_split_ands; refine ⟨?_, ?_, ?_⟩ <;> (rw [hgrow.cell_far _ (by simp; omega) (by simp [Value.ownBlock])]; assumption))
   | (go_split_ands; refine ⟨?_, ?_, ?_⟩ <;> (rw [cell_setmap _ _ _ _ _ hqM]; assumption)))
  (first | (refine step_append_lies _ (by rfl) _ _ _ (by rfl) w2.heap.size 116 i0 _ 3 40 Tryz.underlying111 hi0 hz0 hz1 hz2 rfl (by omega) (.slice none 0 0) 0 [] (by rfl) (World.ownsRow_nil _ _ _ _) ⟨w2.heap.size, 0, none⟩ 1 1 [.string nm2, .map (some M), .string vl2] (by rfl) (by rfl) (World.news_of_block (cs := #[.string nm2, .map (some M), .string vl2]) (t := 116) (fr := (0, 0)) (heap_alloc_new w2 _)) (by simp [Value.oneCell']) (by omega) (by decide) (by omega) (by simp) (w2.heap.size + 1) (by simp) ?_; intro gg cap w3 hown1 hgrow hat hlt; have hm3 : w3.heap[w.heap.size]? = some (.map #[] 0) := (hgrow.block _ (by simp; omega) (by simp [Value.ownBlock])).trans (old_blk hc5 _); have hu3 := hupd w3 (.slice (some ⟨gg, 0, none⟩) 1 cap) hm3))
 all_goals (
  generalize hW9 : ({ heap := w3.heap.setIfInBounds w.heap.size (Obj.map #[{ key := Value.string nm2, val := Value.slice (some { block := gg, off := 0 }) 1 cap, born := 0 }] 1), tape := w3.tape, drawn := w3.drawn, os := w3.os, output := w3.output } : World) = w9)
 all_goals (
  have hs2 : w.heap.size ≤ w2.heap.size := by omega
  have hb3 : Below w.heap.size w2 w3 := ((((Below.refl w.heap.size w2).alloc hs2 _).drew).grown hgrow (by simp; omega) (by simp [Value.ownBlock]))
  have hb9 : Below w.heap.size w2 w9 := by rw [← hW9]; exact below_setmap hb3 _ _ (Nat.le_refl _)
  have hM9 : w9.heap[w.heap.size]? = some (.map #[{ key := Value.string nm2, val := Value.slice (some { block := gg, off := 0 }) 1 cap, born := 0 }] 1) := by rw [← hW9]; exact setmap_at w3 _ _ _ hm3
  have hgg : w2.heap.size ≤ gg := (hown1.lt gg rfl).1
  have hg9 : ∃ cur, w9.heap[gg]? = some (.cells cur 116 (0, 0)) ∧ cur.toList.take 3 = [.string nm2, .map (some M), .string vl2] := by
   rcases hown1.2 with ⟨hv, _⟩ | ⟨g, cp, cur, hv, _, hgb, _, _, _, htk⟩
   ·cases hv
   ·injection hv with h1 h2 h3
    injection h1 with h1
    injection h1 with h1
    subst h1
    exact ⟨cur, by rw [← hW9]; exact (setmap_other w3 _ _ _ (by omega)).trans hgb, htk⟩
  have ho9 := only_below HO2.out hb9
  have hD9 := H3.out.below hb9 hlw.1 hlw.2.1 hlw.2.2
  have hDB9 := hDB.only p ho9
  have hE9 := hE.pl p ho9
  have hMM : w9.heap[M]? = some (.map #[] 0) := by rw [← hW9]; exact (setmap_other w3 _ _ _ (by omega)).trans ((hgrow.block _ (by simp; have := lt_blk H2.out; omega) (by simp [Value.ownBlock])).trans (old_blk H2.out _))
  have G1 := hI hM9
  have G2 := hI hg9
  have G3 := hI ho9
  have G4 := hI hD9
  have G5 := hI hDB9
  have G6 := hI hE9
  have G7 := hI hMM
  have hs9 : w.heap.size ≤ w9.heap.size := ho9.size
  clear hM9 hg9 ho9 hD9 hDB9 hE9 hMM hb9 hb3 hW9 hm3 hu3 hlt hat hgrow hown1 hl7 hl8 hl6 hl5 hc5 hlook hupd H1 H2 H3 H4 H5 HO2 cq0 cq1 cq2 hne1 hne3
  go_wp2_with fail
  rw [rounds_succ]
  go_wp2_with fail
  go_at_call 114
  refine (dl3 D R B SR ea ef w9 p G4.out G5.out G6.out).mono ?_
  rintro e w10 ⟨q2, M2, rfl, l3, l4, k1, k2, k3, k4⟩
  have cq0 : w10.cell? ⟨q2, 0, none⟩ = some (.string nm3) := by rw [cell_blk k1]; rfl
  have cq2 : w10.cell? ⟨q2, 2, none⟩ = some (.string nmVC) := by rw [cell_blk k1]; rfl
  have ho10 := G3.out.trans k4
  have hM10 := k4.blk G1.out (by simp; omega)
  obtain ⟨cur, hc1, hc2⟩ := G2.out
  have hg10 := k4.blk hc1 (by simp; omega)
  have hMM10 := k4.blk G7.out (by simp; omega)
  have hne1 : (nm3.toList == [66, 69, 71, 73, 78]) = false := by rw [Lib.toList_data]; decide
  have hne3 : (nm3.toList == [69, 78, 68]) = true := by rw [Lib.toList_data]; decide
  have hne4 : (nm3.toList != [69, 78, 68]) = false := by rw [Lib.toList_data]; decide
  have G1 := hI ho10
  have G2 := hI hM10
  have G3 := hI hg10
  have G4 := hI hMM10
  clear k1 k2 k3 k4 ho10 hM10 hg10 hMM10 hc1
  go_wp2_with fail
  go_at_call 158
  refine (equalFold_same nmVC w10 (by decide)).mono ?_
  rintro e w11 ⟨rfl, h11⟩
  have hs10 : w.heap.size ≤ w10.heap.size := G1.out.size
  have ho11 := only_below G1.out (h11.mono hs10)
  have hs11 : w.heap.size ≤ w11.heap.size := ho11.size
  have y1 := below_blk h11 G2.out
  have y2 := below_blk h11 G3.out
  have y3 := below_blk h11 G4.out
  have y4 := new_blk w11 (.cells #[.string nmVC, .map (some w.heap.size), .slice none 0 0] 110)
  clear G1 G2 G3 G4 h11
  go_wp2
  go_ret2
  exact ⟨w11.heap.size, w.heap.size, gg, cap, M, cur, rfl, hs11, Nat.le_refl _, by omega, by omega, y4, old_blk y1 _, old_blk y2 _, hc2, old_blk y3 _, ho11.alloc _⟩)
theorem decComp (D R B SR : Nat) (ea ef : Addr) (w : World) (p : Pl D R B SR) (hD : RdS w R B SR awk 0 0 .nilIface (-1) (-1) zbuf 0) (hDB : DecB w D R) (hE : Er w ea ef) :
  Calls Tryz.prog 74 #[.pointer (some ⟨D, 0, none⟩)] w (BodyPost w R B SR) := by
 have hne1 : (nm1.toList == [66, 69, 71, 73, 78]) = true := by rw [Lib.toList_data]; decide
 have hup : upper nmVC = nmVC := (upper_list [86, 67, 65, 76, 69, 78, 68, 65, 82]).trans (by decide)
 go_enter Tryz.func74, Tryz.ntmps74
 go_wp2_with fail
 go_at_call 114
 refine (dl1 D R B SR ea ef w p hD hDB hE).mono ?_
 rintro e w1 ⟨q, M, rfl, l1, l2, k1, k2, k3, k4⟩
 have cq0 : w1.cell? ⟨q, 0, none⟩ = some (.string nm1) := by rw [cell_blk k1]; rfl
 have cq2 : w1.cell? ⟨q, 2, none⟩ = some (.string nmVC) := by rw [cell_blk k1]; rfl
 have hDB1 := hDB.only p k4
 have hE1 := hE.pl p k4
 have H1 := hI k3
 have H2 := hI k4
 clear k1 k2 k3 k4
 go_wp2_with fail
 go_at_call 116
 refine (upper_ical nmVC w1 (by decide)).mono ?_
 rintro e w2 ⟨rfl, h2⟩
 rw [hup]
 have hlt := H1.out.lts
 have hs1 := H2.out.size
 have hltD : D < w1.heap.size := lt_blk hDB1
 go_wp2_with fail
 go_at_call 115
 refine (body D R B SR ea ef w2 p (H1.out.below h2 hlt.1 hlt.2.1 hlt.2.2) (hDB1.below h2 hltD) (hE1.below h2 hE1.size)).mono ?_
 rintro e w3 ⟨C, P0, g, cap, M2, cur, rfl, a1, a2, a3, a4, y1, y2, y3, y4, y5, y6⟩
 have hs2 := h2.size
 have ho := (H2.out.trans (Only.of_below h2)).trans y6
 clear cq0 cq2
 go_wp2
 go_ret2
 exact ⟨C, P0, g, cap, M2, cur, rfl, by omega, by omega, by omega, by omega, y1, y2, y3, y4, y5, ho⟩
def CompAt (w' : World) (C P0 g cap M : Nat) (cur : Array Value) : Prop :=
 w'.heap[C]? = some (.cells #[.string nmVC, .map (some P0), .slice none 0 0] 110) ∧ w'.heap[P0]? = some (.map #[{ key := .string nm2, val := .slice (some ⟨g, 0, none⟩) 1 cap, born := 0 }] 1) ∧
 w'.heap[g]? = some (.cells cur 116 (0, 0)) ∧ cur.toList.take 3 = [.string nm2, .map (some M), .string vl2] ∧ w'.heap[M]? = some (.map #[] 0)
def DecodePost (w : World) (R B SR : Nat) (e : Ending) (w' : World) : Prop := ∃ K C P0 g cap M : Nat, ∃ cur : Array Value, e = .returned (.tuple #[.pointer (some ⟨K, 0, none⟩), .nilIface]) ∧ w.heap.size ≤ K ∧ w.heap.size ≤ C ∧ w.heap.size ≤ P0 ∧ w.heap.size ≤ g ∧ w.heap.size ≤ M ∧
 w'.heap[K]? = some (.cells #[.pointer (some ⟨C, 0, none⟩)] 96) ∧ CompAt w' C P0 g cap M cur ∧ Only [R, SR, B] w w'
theorem decode (D R B SR : Nat) (ea ef : Addr) (w : World) (p : Pl D R B SR) (hD : RdS w R B SR awk 0 0 .nilIface (-1) (-1) zbuf 0) (hDB : DecB w D R) (hE : Er w ea ef) :
  Calls Tryz.prog 43 #[.pointer (some ⟨D, 0, none⟩)] w (DecodePost w R B SR) := by
 have hne1 : (nmVC.toList == [86, 67, 65, 76, 69, 78, 68, 65, 82]) = true := by rw [Lib.toList_data]; decide
 go_enter Tryz.func43, Tryz.ntmps43
 go_wp2_with fail
 go_at_call 74
 refine (decComp D R B SR ea ef w p hD hDB hE).mono ?_
 rintro e w3 ⟨C, P0, g, cap, M2, cur, rfl, a1, a2, a3, a4, y1, y2, y3, y4, y5, y6⟩
 have cC : w3.cell? ⟨C, 0, none⟩ = some (.string nmVC) := by rw [cell_blk y1]; rfl
 have H1 := hI y1
 have H2 := hI y2
 have H3 := hI y3
 have H5 := hI y5
 have H6 := hI y6
 clear y1 y2 y3 y5 y6
 go_wp2
 go_ret2
 exact ⟨w3.heap.size, C, P0, g, cap, M2, cur, rfl, H6.out.size, a1, a2, a3, a4, new_blk w3 _, ⟨old_blk H1.out _, old_blk H2.out _, old_blk H3.out _, y4, old_blk H5.out _⟩, H6.out.alloc _⟩
theorem next_empty (w : World) (ty : TypeId) (bm clock : Nat) (hm : w.heap[bm]? = some (.map #[] clock)) :
  (Instr.next (.pointer (some ⟨w.heap.size, 0, none⟩)) false ty).run Tryz.prog (w.alloc (.mapIter (some bm) clock #[] clock)) = .ok (.tuple #[.bool false]) (w.alloc (.mapIter (some bm) clock #[] clock)) := by
 rcases run_next_map (P := Tryz.prog) w ty bm clock clock #[] #[] clock hm (by simp) (Nat.le_refl _) with ⟨_, h⟩ | ⟨e, he, _⟩
 ·exact h
 ·simp [leftOf] at he
theorem paramsOf_empty (M clock : Nat) (w : World) (hM : w.heap[M]? = some (.map #[] clock)) :
  Calls Tryz.prog 76 #[.map (some M)] w fun e w' => e = .returned (.slice none 0 0) ∧ Below w.heap.size w w' := by
 have hra := run_range_map (P := Tryz.prog) w 112 9 141 M #[] clock Tryz.underlying112 hM
 go_enter Tryz.func76, Tryz.ntmps76
 go_wp2_with fail
 have hnx := fun ty => next_empty w ty M clock hM
 refine wp_loop_rounds 1 ?_
 rw [rounds_succ]
 go_wp2_with (first | (go_at_call 75; refine (Tryz.slices_Sort_string_none _ _ _).mono ?_; rintro e w1 ⟨rfl, rfl⟩))
 refine wp_loop_rounds 1 ?_
 rw [rounds_succ]
 go_wp2
 go_ret
 exact ⟨rfl, by (repeat (first | exact Below.refl _ _ | (refine below_drewN ?_ _) | (refine Below.trans ?_ ((below_regrown _ _ _).mono (by simp <;> omega))) | (refine Below.drew ?_) | (refine Below.alloc ?_ (by simp <;> omega) _) | (refine Below.setCell ?_ (by simp <;> omega) _) | assumption))⟩
end Go.Proofs.YtcllaplddebilaaGreatDoor
end
section
namespace Go.Proofs.YtcllaplddebilaaGreatDoor
open Go.RowKit Go.Sort
attribute [local go_sem] cell?_grow frozen?_grow cell?_redrawn frozen?_redrawn size_redrawn size_grow ba_get ba_extract
attribute [local simp] size_redrawn
open Go.Lib Go.Proofs.YtcllaplddebilaaGreatDoorW.PrintWords Go.Proofs.YtcllaplddebilaaGreatDoorW.PrintLast Go.Proofs.YtcllaplddebilaaGreatDoorW.PrintMore
theorem info_iprop : (Tryz.prog.info? 75).map (fun i => (i.zero, i.size, i.bytes)) = some (some (.agg #[.string { data := #[] }, .slice none 0 0, .string { data := #[] }]), 3, 56) := by kernel_rfl
theorem compOf1 (C P0 g cap M : Nat) (cur : Array Value) (w : World) (h : CompAt w C P0 g cap M cur) :
  Calls Tryz.prog 44 #[.pointer (some ⟨C, 0, none⟩)] w fun e w' => ∃ (a : Addr) (cp : Nat), e = .returned (.agg #[.string nmVC, .slice (some a) 1 cp, .slice none 0 0]) ∧ Below w.heap.size w w' := by
 obtain ⟨y1, y2, y3, y4, y5⟩ := h
 have c0 : w.cell? ⟨C, 0, none⟩ = some (.string nmVC) := by rw [cell_blk y1]; rfl
 have c1 : w.cell? ⟨C, 1, none⟩ = some (.map (some P0)) := by rw [cell_blk y1]; rfl
 have c2 : w.cell? ⟨C, 2, none⟩ = some (.slice none 0 0) := by rw [cell_blk y1]; rfl
 have hCl := lt_blk y1
 have hPl := lt_blk y2
 have hgl := lt_blk y3
 have hMl := lt_blk y5
 go_enter Tryz.func44, Tryz.ntmps44
 go_wp2_with fail
 have hb0 : Below w.heap.size w ((w.alloc (Obj.cells #[Value.string { data := #[] }, Value.slice none 0 0, Value.slice none 0 0] 36)).alloc (Obj.cells #[Value.string nmVC, Value.slice none 0 0, Value.slice none 0 0] 36)) := ((Below.refl _ _).alloc (Nat.le_refl _) _).alloc (by simp) _
 have hO := new_blk (w.alloc (Obj.cells #[Value.string { data := #[] }, Value.slice none 0 0, Value.slice none 0 0] 36)) (Obj.cells #[Value.string nmVC, Value.slice none 0 0, Value.slice none 0 0] 36)
 have hR := old_blk (new_blk w (Obj.cells #[Value.string { data := #[] }, Value.slice none 0 0, Value.slice none 0 0] 36)) (Obj.cells #[Value.string nmVC, Value.slice none 0 0, Value.slice none 0 0] 36)
 have hz : (w.alloc (Obj.cells #[Value.string { data := #[] }, Value.slice none 0 0, Value.slice none 0 0] 36)).heap.size = w.heap.size + 1 := by simp
 rw [hz] at hO
 generalize hw1 : World.alloc (w.alloc _) _ = w1 at hb0 hO hR ⊢
 have hs1 : w1.heap.size = w.heap.size + 2 := by rw [← hw1]; simp
 clear hw1 hz
 have hP1 := (hb0.block P0 hPl).trans y2
 have hra := run_range_map (P := Tryz.prog) w1 107 9 111 P0 _ 1 Tryz.underlying107 hP1
 rw [hra]
 simp only [Result.andThen]
 rw [Oper.upon_value]
 go_wp2_with fail
 refine wp_loop_rounds 2 ?_
 rw [rounds_succ]
 have hnx := fun ty => next_one w1 ty P0 (.string nm2) (.slice (some ⟨g, 0, none⟩) 1 cap) hP1
 have hent := run_entry_map (P := Tryz.prog) w1 P0 1 #[] _ 1 _ hP1 (List.mem_singleton.2 rfl) (by simp)
 simp only [show (#[] : Array Nat).push 0 = #[0] from rfl, hs1] at hent
 simp only [hs1] at hnx
 go_wp2_with fail
 have hI0 := new_blk w1 (.mapIter (some P0) 1 #[0] 1)
 generalize hcp : (Question.appendCap 1 0 9).cut (w1.tape w1.drawn (Question.appendCap 1 0 9)) = cpn
 generalize hcs : (#[Value.string nm2] ++ Builtin.zeroCells #[Value.string { data := #[] }] (cpn - 1)) = csn
 generalize hw4 : World.drew _ = w4
 have hs4 : w4.heap.size = w.heap.size + 5 := by rw [← hw4]; simp [hs1]
 have hb4 : Below w.heap.size w w4 := by
  rw [← hw4]
  exact ((((hb0.alloc (by omega) _).alloc (by simp; omega) _).alloc (by simp; omega) _)).drew
 have hI4 : w4.heap[w.heap.size + 2]? = some (.mapIter (some P0) 1 #[0] 1) := by
  rw [← hw4, ← hs1]
  exact old_blk (old_blk hI0 _) _
 have hO4 : w4.heap[w.heap.size + 1]? = some (.cells #[Value.string nmVC, Value.slice none 0 0, Value.slice none 0 0] 36) := by
  rw [← hw4]
  exact old_blk (old_blk (old_blk hO _) _) _
 have hR4 : w4.heap[w.heap.size]? = some (.cells #[Value.string { data := #[] }, Value.slice none 0 0, Value.slice none 0 0] 36) := by
  rw [← hw4]
  exact old_blk (old_blk (old_blk hR _) _) _
 have hN4 : w4.heap[w.heap.size + 2 + 1 + 1]? = some (.cells csn 9 (0, 0)) := by
  rw [← hw4]
  have h5 := new_blk ((w1.alloc (.mapIter (some P0) 1 #[0] 1)).alloc (.cells #[.string nm2] 9)) (.cells csn 9)
  have h6 : ((w1.alloc (.mapIter (some P0) 1 #[0] 1)).alloc (.cells #[.string nm2] 9)).heap.size = w.heap.size + 2 + 1 + 1 := by simp [hs1]
  rw [h6] at h5
  exact h5
 have hcs0 : csn[0]? = some (.string nm2) := by rw [← hcs, Array.getElem?_append_left (by simp)]; rfl
 have hP4 := (hb4.block P0 hPl).trans y2
 have hdn := fun ty => next_done w4 ty P0 (.string nm2) (.slice (some ⟨g, 0, none⟩) 1 cap) hP4 (w.heap.size + 2) hI4
 clear hw4 hnx hent hra hP1 hI0 hO hR hb0 hs1 hcs hcp
 rw [rounds_succ]
 go_wp2_with fail
 go_at_call 75
 refine (sort_one (w.heap.size + 2 + 1 + 1) cpn csn nm2 w4 hN4 hcs0).mono ?_
 rintro e w5 ⟨rfl, h5⟩
 have hb5 : Below w.heap.size w w5 := hb4.trans (h5.mono (by omega))
 have hs5 : w.heap.size + 5 ≤ w5.heap.size := by have := h5.size; omega
 have hN5 := below_blk h5 hN4
 have hO5 := below_blk h5 hO4
 have hR5 := below_blk h5 hR4
 have hP5 := (hb5.block P0 hPl).trans y2
 have cN5 : w5.cell? ⟨w.heap.size + 2 + 1 + 1, 0, none⟩ = some (.string nm2) := by rw [cell_blk hN5]; exact hcs0
 have c1' : w5.cell? ⟨C, 1, none⟩ = some (.map (some P0)) := by rw [cell_blk ((hb5.block C hCl).trans y1)]; rfl
 have c2' : w5.cell? ⟨C, 2, none⟩ = some (.slice none 0 0) := by rw [cell_blk ((hb5.block C hCl).trans y1)]; rfl
 clear h5 hN4 hO4 hR4 hP4 hI4 hdn hb4 hs4 c0 c1 c2
 have hlk := fun c => lookup_hit (P := Tryz.prog) (mty := 107) (w := w5) (s := nm2) c 0 _ Tryz.underlying107 Tryz.underlying9 hP5 (by rfl)
 have hG5 := (hb5.block g hgl).trans y3
 have hM5 := (hb5.block M hMl).trans y5
 obtain ⟨t0, t1, t2⟩ : cur[0]? = some (.string nm2) ∧ cur[1]? = some (.map (some M)) ∧ cur[2]? = some (.string vl2) := by
  have h : ∀ j, j < 3 → cur.toList[j]? = (List.take 3 cur.toList)[j]? := fun j hj => (List.getElem?_take_of_lt hj).symm
  refine ⟨?_, ?_, ?_⟩ <;> (rw [← Array.getElem?_toList, h _ (by omega), y4]; rfl)
 have g0 : w5.cell? ⟨g, 0, none⟩ = some (.string nm2) := by rw [cell_blk hG5]; exact t0
 have g1 : w5.cell? ⟨g, 1, none⟩ = some (.map (some M)) := by rw [cell_blk hG5]; exact t1
 have g2 : w5.cell? ⟨g, 2, none⟩ = some (.string vl2) := by rw [cell_blk hG5]; exact t2
 have o0 : w5.cell? ⟨w.heap.size + 1, 0, none⟩ = some (.string nmVC) := by rw [cell_blk hO5]; rfl
 have o1 : w5.cell? ⟨w.heap.size + 1, 1, none⟩ = some (.slice none 0 0) := by rw [cell_blk hO5]; rfl
 have o2 : w5.cell? ⟨w.heap.size + 1, 2, none⟩ = some (.slice none 0 0) := by rw [cell_blk hO5]; rfl
 have f0 : ∀ o, w5.frozen? ⟨w.heap.size + 1, o, none⟩ = false := fun o => frozen_blk hO5 o (by omega)
 go_wp2_with fail
 refine wp_loop_rounds 2 ?_
 rw [rounds_succ]
 go_wp2_with fail
 refine wp_loop_rounds 2 ?_
 rw [rounds_succ]
 go_wp2_with fail
 have hb6 : Below w.heap.size w (w5.alloc (Obj.cells #[Value.string nm2, Value.map (some M), Value.string vl2] 116)) := hb5.alloc hb5.size _
 have hp6 := new_blk w5 (Obj.cells #[Value.string nm2, Value.map (some M), Value.string vl2] 116)
 have hM6 := old_blk hM5 (Obj.cells #[Value.string nm2, Value.map (some M), Value.string vl2] 116)
 have hR6 := old_blk hR5 (Obj.cells #[Value.string nm2, Value.map (some M), Value.string vl2] 116)
 have hO6 := old_blk hO5 (Obj.cells #[Value.string nm2, Value.map (some M), Value.string vl2] 116)
 have hz6 : (w5.alloc (Obj.cells #[Value.string nm2, Value.map (some M), Value.string vl2] 116)).heap.size = w5.heap.size + 1 := by simp
 generalize hw6 : w5.alloc _ = w6 at hb6 hp6 hM6 hO6 hR6 hz6 ⊢
 clear hw6 o0 o1 o2 f0 g0 g1 g2 hlk cN5 c1' c2'
 generalize hpq : w5.heap.size = pb at hp6 hz6 ⊢
 have hpb : w.heap.size + 5 ≤ pb := by omega
 clear hpq hN5 hO5 hR5 hP5 hG5 hM5 hb5 hs5
 have q0 : w6.cell? ⟨pb, 0, none⟩ = some (.string nm2) := by rw [cell_blk hp6]; rfl
 have q1 : w6.cell? ⟨pb, 1, none⟩ = some (.map (some M)) := by rw [cell_blk hp6]; rfl
 have q2 : w6.cell? ⟨pb, 2, none⟩ = some (.string vl2) := by rw [cell_blk hp6]; rfl
 have o1 : w6.cell? ⟨w.heap.size + 1, 1, none⟩ = some (.slice none 0 0) := by rw [cell_blk hO6]; rfl
 have H1 := hI hM6
 have H2 := hI hO6
 have H3 := hI hp6
 have H5 := hI hR6
 have H4 := hI hb6
 have y1' := y1
 clear hM6 hO6 hR6 hp6 hb6 y1 y2 y3 y4 y5 t0 t1 t2
 obtain ⟨i0, hi0, hz0, hz1, hz2⟩ := info_parts info_iprop
 have hlq : w.heap.size + 1 < w6.heap.size := by omega
 have hlp : pb < w6.heap.size := by omega
 have hlM : M < w6.heap.size := lt_blk H1.out
 have O3 := hI hpb
 refine start_ (n := 14) (S := fun W => W.cell? ⟨w.heap.size + 1, 1, none⟩ = some (.slice none 0 0) ∧ W.cell? ⟨pb, 0, none⟩ = some (.string nm2) ∧ W.cell? ⟨pb, 1, none⟩ = some (.map (some M)) ∧ W.cell? ⟨pb, 2, none⟩ = some (.string vl2)) (ds := [13]) (bM 14 0) (by kernel_rfl) rfl (by kernel_rfl) ⟨o1, q0, q1, q2⟩ (fun hHeld => ?_)
 refine pU 0 14 1 (some 49) rfl rfl (by kernel_rfl) rfl (fun _ => by go_simp; with_reducible rfl) (by simp only [sW]; rfl) ?_
 refine tA 1 14 3 (some 50) rfl rfl (by kernel_rfl) rfl (fun _ ⟨s0, s1, s2, s3⟩ => by go_simp; with_reducible rfl) hHeld (by simp only [sW]; rfl) ?_
 refine pU 2 14 7 (some 51) rfl rfl (by kernel_rfl) rfl (fun _ => by go_simp; with_reducible rfl) (by simp only [sW]; rfl) ?_
 refine tA 3 14 15 (some 52) rfl rfl (by kernel_rfl) rfl (fun _ ⟨s0, s1, s2, s3⟩ => by go_simp; with_reducible rfl) hHeld (by simp only [sW]; rfl) ?_
 refine pU 4 14 31 (some 53) rfl rfl (by kernel_rfl) rfl (fun _ => by go_simp; with_reducible rfl) (by simp only [sW]; rfl) ?_
 refine tA 5 14 63 (some 54) rfl rfl (by kernel_rfl) rfl (fun _ ⟨s0, s1, s2, s3⟩ => by go_simp; with_reducible rfl) hHeld (by simp only [sW]; rfl) ?_
 refine pU 7 14 191 (some 56) rfl rfl (by kernel_rfl) rfl (fun _ => by go_simp; with_reducible rfl) (by simp only [sW]; rfl) ?_
 refine tA 8 14 447 (some 57) rfl rfl (by kernel_rfl) rfl (fun _ ⟨s0, s1, s2, s3⟩ => by go_simp; with_reducible rfl) hHeld (by simp only [sW]; rfl) ?_
 refine oN 6 14 511 (some 55) rfl rfl (by kernel_rfl) (by decide) (fun K hK => ?_)
 refine goes_ Tryz.func76 (by kernel_rfl) rfl #[.map (some M)] (by rfl) rfl rfl (by (try simp only [List.map_toArray, List.map_cons, List.map_nil]); first | done | rfl | (simp only [List.length_drop, List.length_take]; rfl)) ?_; refine (paramsOf_empty M 0 _ (by exact H1.out)).mono ?_
 rintro e wq ⟨rfl, hbq⟩
 refine ⟨_, rfl, ?_⟩
 have B1 := below_blk hbq H2.out
 have B2 := below_blk hbq H3.out
 have B3 := below_blk hbq H5.out
 have hzq : w6.heap.size ≤ wq.heap.size := hbq.size
 have hb7 := (Below.drew H4.out).trans (hbq.mono (show w.heap.size ≤ w6.heap.size by omega))
 refine hK.out _ _ ⟨(cell_blk B1 1).trans rfl, (cell_blk B2 0).trans rfl, (cell_blk B2 1).trans rfl, (cell_blk B2 2).trans rfl⟩ (fun hHeld => ?_)
 clear hK K
 refine norm_ (by show Act.put _ (some 55) _ = _; simp only [sW]; rfl) ?_
 refine pU 9 14 1023 (some 58) rfl rfl (by kernel_rfl) rfl (fun _ => by go_simp; with_reducible rfl) (by simp only [sW]; rfl) ?_
 refine oN 10 14 2047 (some 59) rfl rfl (by kernel_rfl) (by decide) (fun K hK => ?_)
 refine value_ (v := ?_) (w1 := ?_) (by rfl) rfl ?_ ?_; rotate_left 2; (go_simp; first | rfl | (constructor <;> rfl))
 refine hK.out _ _ ⟨(cell_blk (old_blk B1 _) 1).trans rfl, (cell_blk (old_blk B2 _) 0).trans rfl, (cell_blk (old_blk B2 _) 1).trans rfl, (cell_blk (old_blk B2 _) 2).trans rfl⟩ (fun hHeld => ?_)
 clear hK K
 refine norm_ (by show Act.put _ (some 59) _ = _; simp only [sW]; rfl) ?_
 refine oN 11 14 4095 (some 60) rfl rfl (by kernel_rfl) (by decide) (fun K hK => ?_)
 refine step_append_lies _ (by rfl) _ _ _ (by rfl) wq.heap.size 75 i0 _ 3 56 Tryz.underlying33 hi0 hz0 hz1 hz2 rfl (by omega) (.slice none 0 0) 0 [] (by rfl) (World.ownsRow_nil _ _ _ _) ⟨wq.heap.size, 0, none⟩ 1 1 [.string nm2, .slice none 0 0, .string vl2] (by rfl) (by rfl) (World.news_of_block (cs := #[.string nm2, .slice none 0 0, .string vl2]) (t := 75) (fr := (0, 0)) (heap_alloc_new wq _)) (by simp [Value.oneCell']) (by omega) (by decide) (by omega) (by simp) (wq.heap.size + 1) (by simp) ?_
 intro gg cap7 w7 hown1 hgrow hat hlt
 have hO7 := (hgrow.block _ (by simp; omega) (by simp [Value.ownBlock])).trans (old_blk B1 (.cells #[.string nm2, .slice none 0 0, .string vl2] 75))
 have hp7 := (hgrow.block _ (by simp; omega) (by simp [Value.ownBlock])).trans (old_blk B2 (.cells #[.string nm2, .slice none 0 0, .string vl2] 75))
 have hR7 := (hgrow.block _ (by simp; omega) (by simp [Value.ownBlock])).trans (old_blk B3 (.cells #[.string nm2, .slice none 0 0, .string vl2] 75))
 have hb8 : Below w.heap.size w w7 := (hb7.alloc (by omega) _).grown hgrow (by simp; omega) (by simp [Value.ownBlock])
 refine hK.out _ _ ⟨(cell_blk hO7 1).trans rfl, (cell_blk hp7 0).trans rfl, (cell_blk hp7 1).trans rfl, (cell_blk hp7 2).trans rfl⟩ (fun hHeld => ?_)
 clear hK K
 refine norm_ (by show Act.put _ (some 60) _ = _; simp only [sW]; rfl) ?_
 refine pU 12 14 8191 (some 61) rfl rfl (by kernel_rfl) rfl (fun _ => by go_simp; with_reducible rfl) (by simp only [sW]; rfl) ?_
 refine lA 13 14 16383 none rfl rfl (by kernel_rfl) (by decide) (fun K hK => ?_)
 have cO7 := (cell_blk hO7 1).trans rfl
 have fO7 := frozen_blk hO7 1 (by omega)
 refine skip_ (w1 := ?_) (by rfl) rfl ?_ ?_; rotate_left; (go_simp; first | rfl | done)
 refine hK.out _ _ ?_
 clear hK K
 refine done_ (by kernel_rfl) ?_
 have hb9 := hb8.setCell (p := ⟨w.heap.size + 1, 1, none⟩) (by simp) (.slice (some ⟨gg, 0, none⟩) 1 cap7)
 have hO9 := set_blk hO7 1 (.slice (some ⟨gg, 0, none⟩) 1 cap7)
 have hR9 := (Below.heap_setCell w7 ⟨w.heap.size + 1, 1, none⟩ (.slice (some ⟨gg, 0, none⟩) 1 cap7) w.heap.size (by simp)).trans hR7
 have hz9 : (w7.setCell ⟨w.heap.size + 1, 1, none⟩ (.slice (some ⟨gg, 0, none⟩) 1 cap7)).heap.size = w7.heap.size := by simp [World.setCell]
 generalize hw9 : w7.setCell _ _ = w9 at hb9 hO9 hR9 hz9 ⊢
 clear hw9 hb8 hp7 hO7 hR7 B3 H5 hown1 hgrow hat hlt hb7 hzq B1 B2 hbq H1 H2 H3 H4 q0 q1 q2 o1
 have c2 : w9.cell? ⟨C, 2, none⟩ = some (.slice none 0 0) := by rw [cell_blk ((hb9.block C hCl).trans y1')]; rfl
 have o0 : w9.cell? ⟨w.heap.size + 1, 0, none⟩ = some (.string nmVC) := (cell_blk hO9 0).trans rfl
 have o1 : w9.cell? ⟨w.heap.size + 1, 1, none⟩ = some (.slice (some ⟨gg, 0, none⟩) 1 cap7) := (cell_blk hO9 1).trans rfl
 have o2 : w9.cell? ⟨w.heap.size + 1, 2, none⟩ = some (.slice none 0 0) := (cell_blk hO9 2).trans rfl
 have r0 : w9.cell? ⟨w.heap.size, 0, none⟩ = some (.string { data := #[] }) := (cell_blk hR9 0).trans rfl
 have r1 : w9.cell? ⟨w.heap.size, 1, none⟩ = some (.slice none 0 0) := (cell_blk hR9 1).trans rfl
 have r2 : w9.cell? ⟨w.heap.size, 2, none⟩ = some (.slice none 0 0) := (cell_blk hR9 2).trans rfl
 have f0 : ∀ o, w9.frozen? ⟨w.heap.size, o, none⟩ = false := fun o => frozen_blk hR9 o (by omega)
 have HB9 := hI hb9
 have HR9 := hI hR9
 clear hb9 hR9 hO9
 go_wp2_with fail
 rw [rounds_succ]
 go_wp2_with fail
 rw [rounds_succ]
 go_wp2_with fail
 refine wp_loop_rounds 1 ?_
 rw [rounds_succ]
 go_wp2_with fail
 refine bodyPost_ret (v := .agg #[.string nmVC, .slice (some ⟨gg, 0, none⟩) 1 cap7, .slice none 0 0]) (results_cell_row rfl _ _ w.heap.size 36 #[.string nmVC, .slice (some ⟨gg, 0, none⟩) 1 cap7, .slice none 0 0] (0, 0) _ rfl (set_blk (set_blk (set_blk HR9.out 0 _) 1 _) 2 _) Tryz.underlying36 rfl (by kernel_rfl)) rfl ⟨_, _, rfl, ?_⟩
 exact ((HB9.out.setCell (by simp) _).setCell (by simp) _).setCell (by simp) _
end Go.Proofs.YtcllaplddebilaaGreatDoor
end

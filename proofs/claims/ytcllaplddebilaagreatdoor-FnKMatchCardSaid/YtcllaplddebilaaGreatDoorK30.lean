/- laws.FnKMatch: a part of the proof: MapNext, EqFold, Bufio, SReader, Fill. -/
import Derived.Laws.IdiomRangeMap
import Derived.Test.YtcllaplddebilaaGreatDoorK06
set_option maxRecDepth 1000000
set_option maxHeartbeats 64000000
set_option linter.unusedVariables false
set_option linter.unusedSimpArgs false
section
namespace Go.Proofs.YtcllaplddebilaaGreatDoor
open Go.RowKit Go.Sort
attribute [local go_sem] cell?_grow frozen?_grow cell?_redrawn frozen?_redrawn size_redrawn size_grow ba_get ba_extract
attribute [local simp] size_redrawn
open Go.Lib
theorem iter_set (w : World) (x y : Obj) : ({ w.alloc x with heap := (w.alloc x).heap.setIfInBounds w.heap.size y } : World) = w.alloc y := by
 have h : (w.alloc x).heap.setIfInBounds w.heap.size y = (w.alloc y).heap := by
  show (w.heap.push x).setIfInBounds w.heap.size y = w.heap.push y
  apply Array.toList_inj.1
  simp
 rw [h]; rfl
theorem get_iter {P : Program} {w : World} {b : Nat} {m : Option Nat} {a c : Nat} {s : Array Nat} (hb : w.heap[b]? = some (.mapIter m a s c)) : (getObj b).run P w = .ok (.mapIter m a s c) w := by
 simp [getObj, Sem.run, hb]
theorem set_iter {P : Program} (w : World) (x y : Obj) (hx : ∃ m a s c, x = .mapIter m a s c) : (setObj w.heap.size y).run P (w.alloc x) = .ok () (w.alloc y) := by
 obtain ⟨m, a, s, c, rfl⟩ := hx
 have h1 := new_blk w (.mapIter m a s c)
 simp only [setObj, Sem.run, h1]
 exact congrArg (Result.ok ()) (iter_set w (.mapIter m a s c) y)
theorem next_one (w : World) (ty : TypeId) (bm : Nat) (k v : Value) (hm : w.heap[bm]? = some (.map #[{ key := k, val := v, born := 0 }] 1)) :
  (Instr.next (.pointer (some ⟨w.heap.size, 0, none⟩)) false ty).run Tryz.prog (w.alloc (.mapIter (some bm) 1 #[] 1)) = .ok (.tuple #[.bool true, k, v]) (w.alloc (.mapIter (some bm) 1 #[0] 1)) := by
 have h1 := new_blk w (.mapIter (some bm) 1 #[] 1)
 have h2 := old_blk hm (.mapIter (some bm) 1 #[] 1)
 have h3 := set_iter (P := Tryz.prog) w (.mapIter (some bm) 1 #[] 1) (.mapIter (some bm) 1 #[0] 1) ⟨_, _, _, _, rfl⟩
 simp [Instr.next, get_iter h1, MapKept.run_getObj_map h2, Result.andThen, (show (Question.mapNext 1).forced = true from rfl), h3]
theorem next_done (w : World) (ty : TypeId) (bm : Nat) (k v : Value) (hm : w.heap[bm]? = some (.map #[{ key := k, val := v, born := 0 }] 1)) (b : Nat) (hb : w.heap[b]? = some (.mapIter (some bm) 1 #[0] 1)) :
  (Instr.next (.pointer (some ⟨b, 0, none⟩)) false ty).run Tryz.prog w = .ok (.tuple #[.bool false]) w := by
 simp [Instr.next, get_iter hb, MapKept.run_getObj_map hm, Result.andThen, (show (Question.mapNext 1).forced = true from rfl)]
end Go.Proofs.YtcllaplddebilaaGreatDoor
end
section
namespace Go.Proofs.YtcllaplddebilaaGreatDoor
open Go.RowKit Go.Sort
attribute [local go_sem] cell?_grow frozen?_grow cell?_redrawn frozen?_redrawn size_redrawn size_grow ba_get ba_extract
attribute [local simp] size_redrawn
theorem equalFold_same (s : ByteArray) (w : World) (hm : s.size ≤ 4294967296) :
  Calls Tryz.prog 158 #[.string s, .string s] w fun e w' => e = .returned (.bool true) ∧ Below w.heap.size w w' := by
 go_enter Tryz.func158, Tryz.ntmps158
 go_wp2_with fail
 go_at_call 116
 refine (upper_ical s w hm).mono ?_
 rintro e w1 ⟨rfl, h1⟩
 go_wp2_with fail
 go_at_call 116
 refine (upper_ical s w1 hm).mono ?_
 rintro e w2 ⟨rfl, h2⟩
 have h3 := Below.then h1 h2
 generalize upper s = u
 go_wp2
 go_ret
 exact ⟨by simp, h3⟩
def zbuf : Array Value := madeCells #[.int .u8 0] 4096
theorem info_u8 : (Tryz.prog.info? 5).map (fun i => (i.zero, i.size, i.bytes)) = some (some (.int .u8 0), 1, 1) := by kernel_rfl
theorem mk4096 (w : World) : (Instr.makeSlice 213 (.int .i64 4096) (.int .i64 4096)).run Tryz.prog w = .ok (.slice (some ⟨w.heap.size, 0, none⟩) 4096 4096) (w.alloc (.cells zbuf 5)) :=
 run_make_row' (P := Tryz.prog) 213 5 (.int .u8 0) 1 Tryz.underlying213 info_u8 rfl .i64 .i64 4096 (by decide) (by decide) w
theorem ta_rd (SR : Nat) (w : World) : (Instr.typeAssert (.iface 102 (.pointer (some ⟨SR, 0, none⟩))) 172 173 true).run Tryz.prog w = .ok (.tuple #[.pointer none, .bool false]) w := by kernel_rfl
def BR (w : World) (R B SR : Nat) (r wr : Int) (err : Value) (lb lr : Int) : Prop :=
 w.heap[R]? = some (.cells #[.slice (some ⟨B, 0, none⟩) 4096 4096, .iface 102 (.pointer (some ⟨SR, 0, none⟩)), .int .i64 r, .int .i64 wr, err, .int .i64 lb, .int .i64 lr] 281)
def NewPost (w : World) (SR : Nat) (e : Ending) (w' : World) : Prop := ∃ R B D : Nat, e = .returned (.pointer (some ⟨D, 0, none⟩)) ∧ w.heap.size ≤ R ∧ w.heap.size ≤ B ∧ w.heap.size ≤ D ∧ R ≠ B ∧ R ≠ D ∧ B ≠ D ∧
 BR w' R B SR 0 0 .nilIface (-1) (-1) ∧ w'.heap[B]? = some (.cells zbuf 5 (0, 0)) ∧ w'.heap[D]? = some (.cells #[.pointer (some ⟨R, 0, none⟩)] 176) ∧ Below w.heap.size w w'
theorem newDecoder (SR : Nat) (w : World) :
  Calls Tryz.prog 41 #[.iface 102 (.pointer (some ⟨SR, 0, none⟩))] w (NewPost w SR) := by
 have hmk := mk4096
 have hta := ta_rd SR
 go_enter Tryz.func41, Tryz.ntmps41
 go_wp2_with (first | (go_at_call 73; go_in) | (go_at_call 113; go_in) | (go_at_call 155; go_in))
 go_end0
 go_wp2
 go_ret
 have h1 := new_blk w (.cells #[.slice (some ⟨w.heap.size + 1, 0, none⟩) 4096 4096, .iface 102 (.pointer (some ⟨SR, 0, none⟩)), .int .i64 0, .int .i64 0, .nilIface, .int .i64 (-1), .int .i64 (-1)] 281)
 generalize hW1 : w.alloc _ = W1 at h1 ⊢
 have z1 : W1.heap.size = w.heap.size + 1 := by rw [← hW1]; simp
 have b1 : Below w.heap.size w W1 := by rw [← hW1]; exact (Below.refl _ _).alloc (Nat.le_refl _) _
 have h2 := new_blk W1 (.cells zbuf 5)
 have z2 : (W1.alloc (.cells zbuf 5)).heap.size = w.heap.size + 2 := by simp [z1]
 have h3 := new_blk (W1.alloc (.cells zbuf 5)) (.cells #[.pointer (some ⟨w.heap.size, 0, none⟩)] 176)
 rw [z1] at h2
 rw [z2] at h3
 exact ⟨w.heap.size, w.heap.size + 1, w.heap.size + 2, rfl, by omega, by omega, by omega, by omega, by omega, by omega, old_blk (old_blk h1 _) _, old_blk h2 _, h3, (b1.alloc (by omega) _).alloc (by omega) _⟩
theorem br_cells {w : World} {R B SR : Nat} {r wr : Int} {err : Value} {lb lr : Int} (h : BR w R B SR r wr err lb lr) :
  w.cell? ⟨R, 0, none⟩ = some (.slice (some ⟨B, 0, none⟩) 4096 4096) ∧ w.cell? ⟨R, 1, none⟩ = some (.iface 102 (.pointer (some ⟨SR, 0, none⟩))) ∧ w.cell? ⟨R, 2, none⟩ = some (.int .i64 r) ∧ w.cell? ⟨R, 3, none⟩ = some (.int .i64 wr) ∧
  w.cell? ⟨R, 4, none⟩ = some err ∧ w.cell? ⟨R, 5, none⟩ = some (.int .i64 lb) ∧ w.cell? ⟨R, 6, none⟩ = some (.int .i64 lr) ∧ ∀ o, w.frozen? ⟨R, o, none⟩ = false := by
 refine ⟨?_, ?_, ?_, ?_, ?_, ?_, ?_, fun o => frozen_blk h o (by omega)⟩ <;> (rw [cell_blk h]; rfl)
theorem br_r {w : World} {R B SR : Nat} {r wr : Int} {err : Value} {lb lr : Int} (h : BR w R B SR r wr err lb lr) (x : Int) : BR (w.setCell ⟨R, 2, none⟩ (.int .i64 x)) R B SR x wr err lb lr := set_blk h 2 _
theorem br_w {w : World} {R B SR : Nat} {r wr : Int} {err : Value} {lb lr : Int} (h : BR w R B SR r wr err lb lr) (x : Int) : BR (w.setCell ⟨R, 3, none⟩ (.int .i64 x)) R B SR r x err lb lr := set_blk h 3 _
theorem br_err {w : World} {R B SR : Nat} {r wr : Int} {err : Value} {lb lr : Int} (h : BR w R B SR r wr err lb lr) (x : Value) : BR (w.setCell ⟨R, 4, none⟩ x) R B SR r wr x lb lr := set_blk h 4 _
theorem br_lb {w : World} {R B SR : Nat} {r wr : Int} {err : Value} {lb lr : Int} (h : BR w R B SR r wr err lb lr) (x : Int) : BR (w.setCell ⟨R, 5, none⟩ (.int .i64 x)) R B SR r wr err x lr := set_blk h 5 _
theorem br_lr {w : World} {R B SR : Nat} {r wr : Int} {err : Value} {lb lr : Int} (h : BR w R B SR r wr err lb lr) (x : Int) : BR (w.setCell ⟨R, 6, none⟩ (.int .i64 x)) R B SR r wr err lb x := set_blk h 6 _
end Go.Proofs.YtcllaplddebilaaGreatDoor
end
section
namespace Go.Proofs.YtcllaplddebilaaGreatDoor
open Go.RowKit Go.Sort
attribute [local go_sem] cell?_grow frozen?_grow cell?_redrawn frozen?_redrawn size_redrawn size_grow ba_get ba_extract
attribute [local simp] size_redrawn
open Go.Lib
theorem zbuf_size : zbuf.size = 4096 := by unfold zbuf madeCells; simp
def txtCells (s : ByteArray) : List Value := s.data.toList.map fun b => Value.int .u8 (b.toNat : Int)
theorem txtCells_length (s : ByteArray) : (txtCells s).length = s.size := by
 show (s.data.toList.map _).length = s.data.size
 simp
theorem firstCells_txt (P : Program) (s : ByteArray) (w' : World) : (Builtin.firstCells 1 s.size (.string s)).run P w' = .ok (txtCells s).toArray w' := by
 simp [Builtin.firstCells, txtCells]
 apply Array.ext'; simp
def bufRow (t : ByteArray) : Array Value := (txtCells t ++ zbuf.toList.drop t.size).toArray
theorem run_copy_str (w : World) (g : Nat) (t : ByteArray) (ht : t.size ≤ 4096) (ty : TypeId) (hg : w.heap[g]? = some (.cells zbuf 5 (0, 0))) :
  (Builtin.copy_ #[213, 9] ty #[.slice (some ⟨g, 0, none⟩) 4096 4096, .string t]).run Tryz.prog w = .ok (.int .i64 (t.size : Int)) (w.setRow g (bufRow t)) := by
 have hlen : (txtCells t).length = t.size := txtCells_length t
 have hst := run_storeCells_at Tryz.prog g 0 5 (txtCells t) 0 zbuf w hg (by rw [hlen, zbuf_size]; omega) (by unfold txtCells; intro v hv; simp at hv; obtain ⟨b, _, rfl⟩ := hv; rfl)
 obtain ⟨i, hi, hzz⟩ := Option.map_eq_some_iff.1 info_u8
 simp only [Prod.mk.injEq] at hzz
 have hmin : Nat.min t.size 4096 = t.size := Nat.min_eq_left ht
 have hcl := firstCells_txt Tryz.prog t w
 simp only [Builtin.copy_, Builtin.lenOf]
 simp [run_underlying Tryz.underlying213, sizeOf, typeInfo, hi, hzz, hmin, hcl, hst, goInt, bufRow, hlen]
def SRd (w : World) (SR : Nat) (t : ByteArray) (i pv : Int) : Prop := w.heap[SR]? = some (.cells #[.string t, .int .i64 i, .int .i64 pv] 178)
theorem setRow_other (w : World) (g k : Nat) (cs : Array Value) (h : k ≠ g) : (w.setRow g cs).heap[k]? = w.heap[k]? := by
 simp only [World.setRow, Array.getElem?_modify]
 rw [if_neg (by omega)]
theorem Only.setRow {S : List Nat} {a w : World} (h : Only S a w) {g : Nat} (hg : g ∈ S) (cs : Array Value) : Only S a (w.setRow g cs) :=
 h.trans ⟨rfl, rfl, rfl, by simp [World.setRow], fun k _ hn => setRow_other _ _ _ _ (fun e => hn (e ▸ hg))⟩
theorem sub_len (t : ByteArray) : t.extract 0 t.size = t := by simp
theorem read_all (SR B : Nat) (t : ByteArray) (w : World) (hs : SRd w SR t 0 (-1)) (hB : w.heap[B]? = some (.cells zbuf 5 (0, 0))) (h0 : 0 < t.size) (ht : t.size ≤ 4096) :
  Calls Tryz.prog 360 #[.pointer (some ⟨SR, 0, none⟩), .slice (some ⟨B, 0, none⟩) 4096 4096] w fun e w' => e = .returned (.tuple #[.int .i64 (t.size : Int), .nilIface]) ∧ SRd w' SR t (t.size : Int) (-1) ∧ w'.heap[B]? = some (.cells (bufRow t) 5 (0, 0)) ∧ Only [SR, B] w w' := by
 have hne : SR ≠ B := by intro e; subst e; unfold SRd at hs; rw [hs] at hB; simp at hB
 have hne2 := ba_ne h0
 have k1 : w.cell? ⟨SR, 1, none⟩ = some (.int .i64 0) := by rw [cell_blk hs]; rfl
 have k0 : w.cell? ⟨SR, 0, none⟩ = some (.string t) := by rw [cell_blk hs]; rfl
 have HS := hI hs
 have HB := hI hB
 clear hs hB
 go_enter Tryz.func360, Tryz.ntmps360
 go_wp2
 go_quiet (fail)
 generalize hwd : World.drewN w nq = wd
 have hs : SRd wd SR t 0 (-1) := by rw [← hwd]; exact HS.out
 have hB : wd.heap[B]? = some (.cells zbuf 5 (0, 0)) := by rw [← hwd]; exact HB.out
 have ho : Only [SR, B] w wd := by rw [← hwd]; exact (Only.refl _ _).drewN _
 clear hwd k1 k0 HS HB
 have c0 : wd.cell? ⟨SR, 0, none⟩ = some (.string t) := by rw [cell_blk hs]; rfl
 have c1 : wd.cell? ⟨SR, 1, none⟩ = some (.int .i64 0) := by rw [cell_blk hs]; rfl
 have c2 : wd.cell? ⟨SR, 2, none⟩ = some (.int .i64 (-1)) := by rw [cell_blk hs]; rfl
 have f0 : ∀ o, wd.frozen? ⟨SR, o, none⟩ = false := fun o => frozen_blk hs o (by omega)
 have hs1 := set_blk hs 2 (.int .i64 (-1))
 have hB1 : (wd.setCell ⟨SR, 2, none⟩ (.int .i64 (-1))).heap[B]? = some (.cells zbuf 5 (0, 0)) := by rw [Below.heap_setCell _ _ _ _ (Ne.symm hne)]; exact hB
 have HS := hI hs
 have HS1 := hI hs1
 have HB := hI hB
 have HB1 := hI hB1
 clear hs hB hs1 hB1
 have hcp := fun ty => run_copy_str (wd.setCell ⟨SR, 2, none⟩ (.int .i64 (-1))).drew B t ht ty HB1.out
 have hx := sub_len t
 go_wp2
 go_region
 generalize hw2 : World.setRow _ B (bufRow t) = w2
 have hSR2 : w2.heap[SR]? = some (.cells #[.string t, .int .i64 0, .int .i64 (-1)] 178) := by rw [← hw2, setRow_other _ _ _ _ hne]; exact HS1.out
 have hB2 : w2.heap[B]? = some (.cells (bufRow t) 5 (0, 0)) := by rw [← hw2]; exact setRow_heap _ _ _ _ _ _ HB1.out
 have ho2 : Only [SR, B] w w2 := by rw [← hw2]; exact ((ho.setCell (p := ⟨SR, 2, none⟩) (by simp) _).drew).setRow (by simp) _
 clear hw2 hcp ho c0 c1 c2 f0
 have d1 : w2.cell? ⟨SR, 1, none⟩ = some (.int .i64 0) := by rw [cell_blk hSR2]; rfl
 have e0 : ∀ o, w2.frozen? ⟨SR, o, none⟩ = false := fun o => frozen_blk hSR2 o (by omega)
 have hS3 := set_blk hSR2 1 (.int .i64 (t.size : Int))
 have hB3 : (w2.setCell ⟨SR, 1, none⟩ (.int .i64 (t.size : Int))).heap[B]? = some (.cells (bufRow t) 5 (0, 0)) := by rw [Below.heap_setCell _ _ _ _ (Ne.symm hne)]; exact hB2
 have HS3 := hI hS3
 have HB3 := hI hB3
 clear hSR2 hB2 hS3 hB3 HS HS1 HB HB1
 go_wp2
 go_ret2
 exact ⟨rfl, HS3.out, HB3.out, ho2.setCell (p := ⟨SR, 1, none⟩) (by simp) _⟩
theorem read_eof (SR : Nat) (t : ByteArray) (bv ev : Value) (w : World) (hs : SRd w SR t (t.size : Int) (-1)) (ht : t.size ≤ 4096) (hE : w.cell? ⟨1, 0, none⟩ = some ev) :
  Calls Tryz.prog 360 #[.pointer (some ⟨SR, 0, none⟩), bv] w fun e w' => e = .returned (.tuple #[.int .i64 0, ev]) ∧ Below w.heap.size w w' := by
 have k1 : w.cell? ⟨SR, 1, none⟩ = some (.int .i64 (t.size : Int)) := by rw [cell_blk hs]; rfl
 have k0 : w.cell? ⟨SR, 0, none⟩ = some (.string t) := by rw [cell_blk hs]; rfl
 clear hs
 go_enter Tryz.func360, Tryz.ntmps360
 go_wp2
 go_quiet (fail)
 go_wp2
 try (go_quiet (fail); go_wp2)
 go_ret2
 exact ⟨rfl, by (repeat (first | exact Below.refl _ _ | (refine below_drewN ?_ _) | (refine Below.trans ?_ ((below_regrown _ _ _).mono (by simp <;> omega))) | (refine Below.drew ?_) | (refine Below.alloc ?_ (by simp <;> omega) _) | (refine Below.setCell ?_ (by simp <;> omega) _) | assumption))⟩
theorem meth_read (SR : Nat) (w : World) : (method 568 102 (.pointer (some ⟨SR, 0, none⟩)) "Read").run Tryz.prog w = .ok (360, .pointer (some ⟨SR, 0, none⟩)) w := by kernel_rfl
theorem fill_first (R B SR : Nat) (t : ByteArray) (w : World) (hR : BR w R B SR 0 0 .nilIface (-1) (-1)) (hs : SRd w SR t 0 (-1)) (hB : w.heap[B]? = some (.cells zbuf 5 (0, 0))) (hRB : R ≠ B) (hRS : R ≠ SR) (h0 : 0 < t.size) (ht : t.size ≤ 4096) :
  Calls Tryz.prog 276 #[.pointer (some ⟨R, 0, none⟩)] w fun e w' => e = .returned (.tuple #[]) ∧ BR w' R B SR 0 (t.size : Int) .nilIface (-1) (-1) ∧ SRd w' SR t (t.size : Int) (-1) ∧ w'.heap[B]? = some (.cells (bufRow t) 5 (0, 0)) ∧ Only [R, SR, B] w w' := by
 obtain ⟨c0, c1, c2, c3, c4, c5, c6, fR⟩ := br_cells hR
 have HR := hI hR
 have HS := hI hs
 have HB := hI hB
 clear hR hs hB
 have hme := meth_read SR
 go_enter Tryz.func276, Tryz.ntmps276
 go_wp2_with fail
 go_quiet (fail)
 generalize hwd : World.drewN w nq = wd
 have hR : BR wd R B SR 0 0 .nilIface (-1) (-1) := by rw [← hwd]; exact HR.out
 have hs : SRd wd SR t 0 (-1) := by rw [← hwd]; exact HS.out
 have hB : wd.heap[B]? = some (.cells zbuf 5 (0, 0)) := by rw [← hwd]; exact HB.out
 have ho : Only [R, SR, B] w wd := by rw [← hwd]; exact (Only.refl _ _).drewN _
 clear hwd HR HS HB c0 c1 c2 c3 c4 c5 c6 fR
 obtain ⟨c0, c1, c2, c3, c4, c5, c6, fR⟩ := br_cells hR
 have HR := hI hR
 have HS := hI hs
 have HB := hI hB
 clear hR hs hB
 go_wp2_with fail
 refine wp_loop_rounds 1 ?_
 rw [rounds_succ]
 go_wp2_with fail
 go_region_held3 (fun w' => w'.cell? ⟨R, 0, none⟩ = some (.slice (some ⟨B, 0, none⟩) 4096 4096) ∧ w'.cell? ⟨R, 1, none⟩ = some (.iface 102 (.pointer (some ⟨SR, 0, none⟩))) ∧ w'.cell? ⟨R, 3, none⟩ = some (.int .i64 0)) (first | exact ⟨c0, c1, c3⟩ | exact ⟨k0, k1, k3⟩) (first | (go_at_call 360; refine (read_all SR B t _ ?_ ?_ h0 ht).mono ?_; exact HS.out; exact HB.out; rintro e w3 ⟨rfl, hs3, hB3, ho3⟩; have hR3 : BR w3 R B SR 0 0 .nilIface (-1) (-1) := ho3.blk HR.out (by simp; omega); obtain ⟨k0, k1, k2, k3, k4, k5, k6, kf⟩ := br_cells hR3))
 have HW := hI (br_w hR3 (t.size : Int))
 have HS3 := hI hs3
 have HB3 := hI hB3
 have hRSB : SR ≠ B := by intro e; subst e; unfold SRd at hs3; rw [hs3] at hB3; simp at hB3
 have HO := hI (ho.drew.trans (ho3.mono (S' := [R, SR, B]) (fun x hx => List.mem_cons_of_mem _ hx)))
 clear hs3 hB3 ho3 ho hR3 c0 c1 c2 c3 c4 c5 c6 fR HR HS HB
 go_wp2
 refine bodyPost_ret (v := .tuple #[]) (by simp [results, Tryz.results276, go_sem]) rfl ?_
 refine ⟨rfl, HW.out, ?_, ?_, HO.out.setCell (p := ⟨R, 3, none⟩) (by simp) _⟩
 ·exact (Below.heap_setCell _ _ _ _ (fun e => hRS e.symm)).trans HS3.out
 ·exact (Below.heap_setCell _ _ _ _ (fun e => hRB e.symm)).trans HB3.out
theorem fill_end (R B SR : Nat) (t : ByteArray) (lb lr : Int) (ea : Addr) (w : World) (hR : BR w R B SR (t.size : Int) (t.size : Int) .nilIface lb lr) (hs : SRd w SR t (t.size : Int) (-1)) (hRS : R ≠ SR) (h0 : 0 < t.size) (ht : t.size ≤ 4000) (hE : w.cell? ⟨1, 0, none⟩ = some (.iface 188 (.pointer (some ea)))) (hG : 28 ≤ w.heap.size) (hRG : 28 ≤ R) :
  Calls Tryz.prog 276 #[.pointer (some ⟨R, 0, none⟩)] w fun e w' => e = .returned (.tuple #[]) ∧ BR w' R B SR 0 0 (.iface 188 (.pointer (some ea))) lb lr ∧ Only [R] w w' := by
 obtain ⟨c0, c1, c2, c3, c4, c5, c6, fR⟩ := br_cells hR
 have hcn := fun (x : World) (a : Option Addr) (sc : Nat) (ty : TypeId) => run_copy_none (P := Tryz.prog) x 213 213 ty 5 (some ⟨B, 0, none⟩) a 4096 4096 0 sc Tryz.underlying213 (by kernel_rfl) (by decide)
 have hme := meth_read SR
 have HR := hI hR
 have HS := hI hs
 have HE := hI hE
 clear hR hs hE
 go_enter Tryz.func276, Tryz.ntmps276
 go_wp2_with fail
 go_quiet (fail)
 generalize hwd : World.drewN w nq = wd
 have hR : BR wd R B SR (t.size : Int) (t.size : Int) .nilIface lb lr := by rw [← hwd]; exact HR.out
 have ho : Only [R] w wd := by rw [← hwd]; exact (Only.refl _ _).drewN _
 clear hwd HR c0 c1 c2 c3 c4 c5 c6 fR
 obtain ⟨c0, c1, c2, c3, c4, c5, c6, fR⟩ := br_cells hR
 have HR2 := hI (br_w hR 0)
 clear hR
 go_wp2_with fail
 go_region
 generalize hw2 : World.drew _ = w2
 have hR : BR w2 R B SR (t.size : Int) 0 .nilIface lb lr := by rw [← hw2]; exact HR2.out
 have ho2 : Only [R] w w2 := by rw [← hw2]; exact (ho.setCell (p := ⟨R, 3, none⟩) (by simp) _).drew
 clear hw2 HR2 ho c0 c1 c2 c3 c4 c5 c6 fR
 obtain ⟨c0, c1, c2, c3, c4, c5, c6, fR⟩ := br_cells hR
 have hR3 := br_r hR 0
 have ho3 := ho2.setCell (p := ⟨R, 2, none⟩) (by simp) (.int .i64 0)
 clear hR
 have hz3 : ∀ o, (w2.setCell ⟨R, 2, none⟩ (.int .i64 0)).cell? ⟨R, o, none⟩ = (w2.setCell ⟨R, 2, none⟩ (.int .i64 0)).cell? ⟨R, o, none⟩ := fun _ => rfl
 clear hz3
 have HR3 := hI hR3
 have HO3 := hI ho3
 clear hR3 ho3 ho2
 go_wp2_with fail
 go_quiet (fail)
 generalize hw4 : World.drewN _ nq = w4
 have hR : BR w4 R B SR 0 0 .nilIface lb lr := by rw [← hw4]; exact HR3.out
 have ho : Only [R] w w4 := by rw [← hw4]; exact HO3.out.drewN _
 clear hw4 HR3 HO3 c0 c1 c2 c3 c4 c5 c6 fR
 obtain ⟨c0, c1, c2, c3, c4, c5, c6, fR⟩ := br_cells hR
 have hs : SRd w4 SR t (t.size : Int) (-1) := ho.blk HS.out (by simp; exact fun e => hRS e.symm)
 have hE : w4.cell? ⟨1, 0, none⟩ = some (.iface 188 (.pointer (some ea))) := (ho.cell (by omega) (by simp; omega)).trans HE.out
 have HR := hI hR
 have HSS := hI hs
 have HEE := hI hE
 have HO := hI ho
 clear hR hs hE ho
 go_wp2_with fail
 refine wp_loop_rounds 1 ?_
 rw [rounds_succ]
 go_wp2_with fail
 go_region_held3 (fun w' => w'.cell? ⟨R, 0, none⟩ = some (.slice (some ⟨B, 0, none⟩) 4096 4096) ∧ w'.cell? ⟨R, 1, none⟩ = some (.iface 102 (.pointer (some ⟨SR, 0, none⟩))) ∧ w'.cell? ⟨R, 3, none⟩ = some (.int .i64 0)) (first | exact ⟨c0, c1, c3⟩ | exact ⟨k0, k1, k3⟩) (first | (go_at_call 360; refine (read_eof SR t _ (.iface 188 (.pointer (some ea))) _ ?_ (by omega) ?_).mono ?_; exact HSS.out; exact HEE.out; rintro e w5 ⟨rfl, hb5⟩; have hR5 : BR w5 R B SR 0 0 .nilIface lb lr := below_blk hb5 HR.out; obtain ⟨k0, k1, k2, k3, k4, k5, k6, kf⟩ := br_cells hR5))
 have HW := hI (br_err (br_w hR5 0) (.iface 188 (.pointer (some ea))))
 have HO5 := hI (HO.out.drew.trans (Only.of_below hb5))
 clear c0 c1 c2 c3 c4 c5 c6 fR HR HSS HEE HO HS HE hR5 hb5
 go_wp2
 refine bodyPost_ret (v := .tuple #[]) (by simp [results, Tryz.results276, go_sem]) rfl ?_
 exact ⟨rfl, HW.out, (HO5.out.setCell (p := ⟨R, 3, none⟩) (by simp) _).setCell (p := ⟨R, 4, none⟩) (by simp) _⟩
end Go.Proofs.YtcllaplddebilaaGreatDoor
end

/- laws.FnKMatch: a part of the proof: Base. -/
import Derived.BigQuiet
import Derived.Deep.LoopGhost
import Derived.Deep.OwnRows
import Derived.Deep.QuietTactic
import Derived.Deep.RegionHeld3
import Derived.Deep.RegionWith
import Derived.Laws.BitsAllLaws
import Derived.Lib.Hide
import Derived.Lib.OthersKept
import Derived.Lib.QuietBelow
import Derived.Outline
import Derived.StillTailTactics
import Derived.WalkKit
import Derived.WalkLawsBesides
import Derived.WalkSpells
set_option maxRecDepth 1000000
set_option maxHeartbeats 64000000
set_option linter.unusedVariables false
set_option linter.unusedSimpArgs false
namespace Go.Proofs.YtcllaplddebilaaGreatDoor
open Go.RowKit Go.Sort
theorem hI {p : Prop} (h : p) : Go.RowKit.Hid p := h
theorem ret_int {k : IntKind} {a b : Int} (h : a = b) : Ending.returned (.int k a) = .returned (.int k b) := by rw [h]
theorem ret_bool {a b : Bool} (h : a = b) : Ending.returned (.bool a) = .returned (.bool b) := by rw [h]
theorem ba_get (a : Array UInt8) (i : Nat) (h : i < (ByteArray.mk a).size) : (ByteArray.mk a)[i]'h = a[i]'h := rfl
theorem ba_extract (a : Array UInt8) (i j : Nat) : (ByteArray.mk a).extract i j = ByteArray.mk (a.extract i j) := by
 apply ByteArray.ext; simp
theorem cell?_redrawn (w : World) (d : Nat) (a : Addr) : (redrawn w d).cell? a = w.cell? a := rfl
theorem frozen?_redrawn (w : World) (d : Nat) (a : Addr) : (redrawn w d).frozen? a = w.frozen? a := rfl
theorem size_redrawn (w : World) (d : Nat) : (redrawn w d).heap.size = w.heap.size := rfl
theorem ba_ne {s : ByteArray} {n : Nat} (h : n < s.size) : ¬ s = ByteArray.empty := by rintro rfl; simp at h
theorem bcell {W w1 : World} (hb : Below W.heap.size W w1) : (∀ b o, b < W.heap.size → w1.cell? ⟨b, o, none⟩ = W.cell? ⟨b, o, none⟩) ∧ (∀ b o, b < W.heap.size → w1.frozen? ⟨b, o, none⟩ = W.frozen? ⟨b, o, none⟩) :=
 ⟨fun b o h => hb.cell (p := ⟨b, o, none⟩) h, fun b o h => hb.frozen (p := ⟨b, o, none⟩) h⟩
theorem Below.then {W w1 w2 : World} (hb : Below W.heap.size W w1) (hb2 : Below w1.heap.size w1 w2) : Below W.heap.size W w2 := hb.trans (hb2.mono hb.size)
theorem and1 (n : Int) : bits .and .i64 n 1 = n % 2 := by
 have h1 : (BitVec.ofInt 64 1).toNat = 2 ^ 1 - 1 := by decide
 have key : (BitVec.ofInt 64 n &&& BitVec.ofInt 64 1).toNat = (n % ((2 ^ 64 : Nat) : Int)).toNat % 2 ^ 1 := by
  rw [BitVec.toNat_and, BitVec.toNat_ofInt, h1, Nat.and_two_pow_sub_one_eq_mod]
 show IntKind.i64.wrap ((BitVec.ofInt 64 n &&& BitVec.ofInt 64 1).toNat : Nat) = n % 2
 rw [key, IntKind.wrap_i64]
 omega
theorem and3 (n : Int) : bits .and .i64 n 3 = n % 4 := by
 have h3 : (BitVec.ofInt 64 3).toNat = 2 ^ 2 - 1 := by decide
 have key : (BitVec.ofInt 64 n &&& BitVec.ofInt 64 3).toNat = (n % ((2 ^ 64 : Nat) : Int)).toNat % 2 ^ 2 := by
  rw [BitVec.toNat_and, BitVec.toNat_ofInt, h3, Nat.and_two_pow_sub_one_eq_mod]
 show IntKind.i64.wrap ((BitVec.ofInt 64 n &&& BitVec.ofInt 64 3).toNat : Nat) = n % 4
 rw [key, IntKind.wrap_i64]
 omega
theorem and15 (n : Int) : bits .and .i64 n 15 = n % 16 := by
 have h15 : (BitVec.ofInt 64 15).toNat = 2 ^ 4 - 1 := by decide
 have key : (BitVec.ofInt 64 n &&& BitVec.ofInt 64 15).toNat = (n % ((2 ^ 64 : Nat) : Int)).toNat % 2 ^ 4 := by
  rw [BitVec.toNat_and, BitVec.toNat_ofInt, h15, Nat.and_two_pow_sub_one_eq_mod]
 show IntKind.i64.wrap ((BitVec.ofInt 64 n &&& BitVec.ofInt 64 15).toNat : Nat) = n % 16
 rw [key, IntKind.wrap_i64]
 omega
theorem then_exit {K : Act → World → Prop} {Q : Exit → Act → World → Prop} {id : Nat} {a : Act} {w : World} (h : Q (.exit id) a w) : Exit.then K Q (.exit id) a w := h
theorem inBlock_ne {Q : Exit → Act → World → Prop} {id id' : Nat} {a : Act} {w : World} (hn : decide (id' = id) = false) (h : Q (.exit id') a w) : Exit.inBlock id Q (.exit id') a w := by
 have : ¬ id' = id := by simpa using hn
 simp only [Exit.inBlock, if_neg this]; exact h
theorem inBlock_eq {Q : Exit → Act → World → Prop} {id : Nat} {a : Act} {w : World} (h : Q .normal a w) : Exit.inBlock id Q (.exit id) a w := by
 simp only [Exit.inBlock, if_true]; exact h
theorem cell_blk {w : World} {b : Nat} {C : Array Value} {T : TypeId} {fz : Nat × Nat} (h : w.heap[b]? = some (.cells C T fz)) (o : Nat) : w.cell? ⟨b, o, none⟩ = C[o]? := by
 simp [World.cell?, h]
theorem frozen_blk {w : World} {b : Nat} {C : Array Value} {T : TypeId} {lo hi : Nat} (h : w.heap[b]? = some (.cells C T (lo, hi))) (o : Nat) (ho : o < lo ∨ hi ≤ o) : w.frozen? ⟨b, o, none⟩ = false := by
 simp [World.frozen?, h]; omega
theorem set_blk {w : World} {b : Nat} {C : Array Value} {T : TypeId} {fz : Nat × Nat} (h : w.heap[b]? = some (.cells C T fz)) (o : Nat) (v : Value) : (w.setCell ⟨b, o, none⟩ v).heap[b]? = some (.cells (C.setIfInBounds o v) T fz) := by
 simp only [World.setCell, Array.getElem?_modify, h]
 simp
theorem lt_blk {w : World} {b : Nat} {o : Obj} (h : w.heap[b]? = some o) : b < w.heap.size := (Array.getElem?_eq_some_iff.1 h).1
theorem new_blk (w : World) (o : Obj) : (w.alloc o).heap[w.heap.size]? = some o := by
 show (w.heap.push o)[w.heap.size]? = _
 simp
theorem old_blk {w : World} {b : Nat} {x : Obj} (h : w.heap[b]? = some x) (o : Obj) : (w.alloc o).heap[b]? = some x := by
 have := lt_blk h
 show (w.heap.push o)[b]? = _
 rw [Array.getElem?_push, if_neg (by omega)]; exact h
theorem txt_at (s : ByteArray) (n : Nat) (hn : n < s.size) : ∃ t : ByteArray, s.extract n s.size = t ∧ ∃ h : 0 < t.size, t[0] = s[n] ∧ t.extract 1 t.size = s.extract (n + 1) s.size ∧ t.size ≤ s.size := by
 refine ⟨s.extract n s.size, rfl, by simp; omega, ?_, ?_, ?_⟩
 ·rw [ByteArray.getElem_extract]; simp
 ·rw [ByteArray.extract_extract]; simp; congr 1; omega
 ·simp
structure Only (S : List Nat) (w w' : World) : Prop where
 os : w'.os = w.os
 tape : w'.tape = w.tape
 output : w'.output = w.output
 size : w.heap.size ≤ w'.heap.size
 block : ∀ k, k < w.heap.size → k ∉ S → w'.heap[k]? = w.heap[k]?
theorem Only.refl (S : List Nat) (w : World) : Only S w w := ⟨rfl, rfl, rfl, Nat.le_refl _, fun _ _ _ => rfl⟩
theorem Only.trans {S : List Nat} {a b c : World} (h : Only S a b) (k : Only S b c) : Only S a c :=
 ⟨k.os.trans h.os, k.tape.trans h.tape, k.output.trans h.output, Nat.le_trans h.size k.size, fun i hi hn => (k.block i (Nat.lt_of_lt_of_le hi h.size) hn).trans (h.block i hi hn)⟩
theorem Only.of_below {S : List Nat} {w w' : World} (h : Below w.heap.size w w') : Only S w w' := ⟨h.os, h.tape, h.output, h.size, fun k hk _ => h.block k hk⟩
theorem Only.mono {S S' : List Nat} {w w' : World} (h : Only S w w') (hs : ∀ x, x ∈ S → x ∈ S') : Only S' w w' := ⟨h.os, h.tape, h.output, h.size, fun k hk hn => h.block k hk (fun hx => hn (hs k hx))⟩
theorem Only.alloc {S : List Nat} {a w : World} (h : Only S a w) (o : Obj) : Only S a (w.alloc o) :=
 h.trans (Only.of_below ((Below.refl _ _).alloc (Nat.le_refl _) o))
theorem Only.drewN {S : List Nat} {a w : World} (h : Only S a w) (n : Nat) : Only S a (w.drewN n) := ⟨h.os, h.tape, h.output, h.size, h.block⟩
theorem Only.drew {S : List Nat} {a w : World} (h : Only S a w) : Only S a w.drew := ⟨h.os, h.tape, h.output, h.size, h.block⟩
theorem Only.setCell {S : List Nat} {a w : World} (h : Only S a w) {p : Addr} (hp : p.block ∈ S) (u : Value) : Only S a (w.setCell p u) :=
 h.trans ⟨rfl, rfl, rfl, by simp [World.setCell], fun k _ hn => Below.heap_setCell _ _ _ _ (fun e => hn (e ▸ hp))⟩
theorem Only.below {S : List Nat} {B : Nat} {w w' : World} (h : Only S w w') (hB : B ≤ w.heap.size) (hS : ∀ x, x ∈ S → B ≤ x) : Below B w w' :=
 ⟨h.os, h.tape, h.output, h.size, fun k hk => h.block k (Nat.lt_of_lt_of_le hk hB) (fun hx => by have := hS k hx; omega)⟩
theorem Only.blk {S : List Nat} {w w' : World} (h : Only S w w') {b : Nat} {o : Obj} (hb : w.heap[b]? = some o) (hn : b ∉ S) : w'.heap[b]? = some o := (h.block b (lt_blk hb) hn).trans hb
theorem below_blk {w w' : World} (h : Below w.heap.size w w') {b : Nat} {o : Obj} (hb : w.heap[b]? = some o) : w'.heap[b]? = some o := (h.block b (lt_blk hb)).trans hb
theorem Only.cell {S : List Nat} {w w' : World} (h : Only S w w') {b o : Nat} (hb : b < w.heap.size) (hn : b ∉ S) : w'.cell? ⟨b, o, none⟩ = w.cell? ⟨b, o, none⟩ := World.cell?_of_block (w := w) (h.block b hb hn)
end Go.Proofs.YtcllaplddebilaaGreatDoor

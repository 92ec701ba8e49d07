/- laws.FnKMatch: a part of the proof: Uint. -/
import Derived.Lib.AtoiErrMem
import Derived.Shelf.Strconv.ParseUint10b64
import Derived.Test.YtcllaplddebilaaGreatDoorK10
set_option maxRecDepth 1000000
set_option maxHeartbeats 64000000
set_option linter.unusedVariables false
set_option linter.unusedSimpArgs false
namespace Go.Proofs.YtcllaplddebilaaGreatDoor
open Go.RowKit Go.Sort
attribute [local go_sem] cell?_grow frozen?_grow cell?_redrawn frozen?_redrawn size_redrawn size_grow ba_get ba_extract
attribute [local simp] size_redrawn
open Go.Lib Go.Shelf Go.Proofs.YtcllaplddebilaaGreatDoorW.PrintWords Go.Proofs.YtcllaplddebilaaGreatDoorW.PrintLast Go.Proofs.YtcllaplddebilaaGreatDoorW.PrintMore
def uintRen : Go.Shelf.Ren := ⟨fun | 287 => 309 | 321 => 319 | 322 => 320 | n => n, fun | 0 => 0 | 3 => 3 | 4 => 4 | 5 => 5 | 9 => 9 | 21 => 21 | 37 => 213 | 46 => 236 | 53 => 297 | 75 => 61 | 167 => 405 | 80 => 77 | n => n, fun n => n⟩
theorem lays287 : Go.Proofs.Lays.n287 Tryz.prog uintRen := {
 mixed := by kernel_rfl
 f287 := Tryz.func309.trans (congrArg some (by kernel_rfl))
 f321 := Tryz.func319.trans (congrArg some (by kernel_rfl))
 f322 := Tryz.func320.trans (congrArg some (by kernel_rfl))
 t0 := Tryz.underlying0
 a0 := Tryz.isAgg0
 z0 := Tryz.sizeOf0
 v0 := Tryz.zeroValue0
 t3 := Tryz.underlying3
 a3 := Tryz.isAgg3
 z3 := Tryz.sizeOf3
 v3 := Tryz.zeroValue3
 t4 := Tryz.underlying4
 a4 := Tryz.isAgg4
 z4 := Tryz.sizeOf4
 v4 := Tryz.zeroValue4
 t5 := Tryz.underlying5
 a5 := Tryz.isAgg5
 z5 := Tryz.sizeOf5
 v5 := Tryz.zeroValue5
 t9 := Tryz.underlying9
 a9 := Tryz.isAgg9
 z9 := Tryz.sizeOf9
 v9 := Tryz.zeroValue9
 t21 := Tryz.underlying21
 a21 := Tryz.isAgg21
 z21 := Tryz.sizeOf21
 v21 := Tryz.zeroValue21
 t37 := Tryz.underlying213
 a37 := Tryz.isAgg213
 z37 := Tryz.sizeOf213
 v37 := Tryz.zeroValue213
 t46 := Tryz.underlying236
 a46 := Tryz.isAgg236
 z46 := Tryz.sizeOf236
 v46 := Tryz.zeroValue236
 t53 := Tryz.underlying297
 a53 := Tryz.isAgg297
 z53 := Tryz.sizeOf297
 v53 := Tryz.zeroValue297
 t75 := Tryz.underlying61
 a75 := Tryz.isAgg61
 z75 := Tryz.sizeOf61
 v75 := Tryz.zeroValue61
 t167 := Tryz.underlying405
 a167 := Tryz.isAgg405
 z167 := Tryz.sizeOf405
 v167 := Tryz.zeroValue405 }
theorem pu_dec : ∀ (l : List UInt8) (acc : Nat), digs l → (acc + 1) * 10 ^ l.length ≤ 100000000000000 → ∃ n : Nat, Lib.parseUint10 acc l = .ok n ∧ (n : Int) = dec l acc
 | [], acc, _, _ => ⟨acc, rfl, rfl⟩
 | c :: l, acc, hd, hl => by
  have hc := hd c List.mem_cons_self
  have hp : 10 ^ (c :: l).length = 10 ^ l.length * 10 := by rw [List.length_cons, Nat.pow_succ]
  have h1 : 1 ≤ 10 ^ l.length := Nat.one_le_pow _ _ (by decide)
  have h2 : (acc + 1) * 10 * 10 ^ l.length ≤ 100000000000000 := by rw [hp] at hl; rw [Nat.mul_assoc, Nat.mul_comm 10]; exact hl
  have h3 : (acc + 1) * 10 ≤ 100000000000000 := Nat.le_trans (Nat.le_mul_of_pos_right _ h1) h2
  obtain ⟨n, e1, e2⟩ := pu_dec l (acc * 10 + (c.toNat - 48)) (fun x hx => hd x (List.mem_cons_of_mem _ hx)) (Nat.le_trans (Nat.mul_le_mul_right _ (by omega)) h2)
  refine ⟨n, ?_, ?_⟩
  ·unfold Lib.parseUint10
   rw [if_pos hc, if_neg (by omega), if_neg (by omega)]
   exact e1
  ·rw [e2]
   have e3 : ((acc * 10 + (c.toNat - 48) : Nat) : Int) = 10 * (acc : Int) + ((c.toNat : Int) - 48) := by omega
   rw [e3]
   rfl
theorem parseUint (t : ByteArray) (w : World) (hd : digs t.toList) (h1 : 0 < t.size) (h4 : t.size ≤ 4) :
  Calls Tryz.prog 316 #[.string t, .int .i64 10, .int .i64 64] w fun e w' => e = .returned (.tuple #[.int .u64 (dec t.toList 0), .nilIface]) ∧ Below w.heap.size w w' := by
 obtain ⟨n, e1, e2⟩ := pu_dec t.toList 0 hd (by
  rw [tl_len]
  have : 10 ^ t.size ≤ 10 ^ 4 := Nat.pow_le_pow_right (by decide) h4
  omega)
 have e2 : (n : Int) = dec t.toList 0 := e2
 have hc : ∀ w, Calls Tryz.prog 309 #[.string t, .int .i64 10, .int .i64 64] w fun e w' => e = .returned (.tuple #[.int .u64 (dec t.toList 0), .nilIface]) ∧ Below w.heap.size w w' := fun w => by
  refine (Any.internal_strconv_ParseUint_10_b64 lays287 t (by omega) (by omega) w).mono ?_
  rintro e w1 ⟨rfl, rfl⟩
  refine ⟨?_, Lib.bytesWorld_below _ _ _⟩
  rw [← Lib.toList_data, e1, ← e2]
  rfl
 clear e1 e2
 go_enter Tryz.func316, Tryz.ntmps316
 go_wp2_with fail
 refine (hc w).mono ?_
 rintro e w1 ⟨rfl, hb⟩
 have HB := hI hb
 clear hb hc
 go_wp2
 exact bodyPost_ret (v := .tuple #[.int .u64 (dec t.toList 0), .nilIface]) (by simp [results, Tryz.results316, go_sem]) rfl ⟨rfl, HB.out⟩
end Go.Proofs.YtcllaplddebilaaGreatDoor

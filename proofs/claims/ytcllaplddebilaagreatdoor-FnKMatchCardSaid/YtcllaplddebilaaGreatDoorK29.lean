/- laws.FnKMatch: a part of the proof: Shelf, SortOne. -/
import Derived.Ground.Names2Prog
import Derived.Ground.SlgnProg
import Derived.Shelf.Bytes.IndexByte
import Derived.Shelf.LaysM
import Derived.Shelf.Slices.Clone
import Derived.Shelf.Slices.In.SortNone
import Derived.Shelf.SlicesE.Clone
import Derived.Shelf.Small.Bits
import Derived.Shelf.Sort.Plain
import Derived.Shelf.Strconv.Itoa0
import Derived.Shelf.Strconv.Itoa1
import Derived.Shelf.Strconv.Itoa2
import Derived.Shelf.Strconv.Itoa3
import Derived.Shelf.Strings.Builder1
import Derived.Test.YtcllaplddebilaaGreatDoorProg
import Derived.Test.YtcllaplddebilaaGreatDoorK00
set_option maxRecDepth 1000000
set_option maxHeartbeats 64000000
set_option linter.unusedVariables false
set_option linter.unusedSimpArgs false
section
namespace Go.Proofs
open Go.Shelf
def Tryz.lays169_ren : Go.Shelf.Ren := ⟨fun | 169 => 213 | n => n, fun | 70 => 330 | 9 => 9 | 0 => 0 | 72 => 332 | 37 => 213 | 127 => 400 | 3 => 3 | 5 => 5 | n => n, fun | n => n⟩
theorem Tryz.lays169 : Go.Proofs.Lays.n169 Tryz.prog Tryz.lays169_ren := {
 mixed := by kernel_rfl
 f169 := Tryz.func213.trans (congrArg some (by kernel_rfl))
 t0 := Tryz.underlying0
 a0 := Tryz.isAgg0
 z0 := Tryz.sizeOf0
 v0 := Tryz.zeroValue0
 t3 := Tryz.underlying3
 a3 := Tryz.isAgg3
 z3 := Tryz.sizeOf3
 v3 := Tryz.zeroValue3
 t9 := Tryz.underlying9
 a9 := Tryz.isAgg9
 z9 := Tryz.sizeOf9
 v9 := Tryz.zeroValue9
 t37 := Tryz.underlying213
 a37 := Tryz.isAgg213
 z37 := Tryz.sizeOf213
 v37 := Tryz.zeroValue213
 t70 := Tryz.underlying330
 a70 := Tryz.isAgg330
 z70 := Tryz.sizeOf330
 v70 := Tryz.zeroValue330
 t72 := Tryz.underlying332
 a72 := Tryz.isAgg332
 z72 := Tryz.sizeOf332
 v72 := Tryz.zeroValue332
 t127 := Tryz.underlying400
 a127 := Tryz.isAgg400
 z127 := Tryz.sizeOf400
 v127 := Tryz.zeroValue400 }
theorem Tryz.Builder_Extra_169 : Builder.Extra Tryz.prog Tryz.lays169_ren := {
 sizeBuilder := by kernel_rfl
 liesBuilder := by kernel_rfl
 t5 := Tryz.underlying5
 a5 := Tryz.isAgg5
 z5 := Tryz.sizeOf5
 v5 := Tryz.zeroValue5
 infoByte := by kernel_rfl
 cellsByte := by kernel_rfl
 sizeByte := by kernel_rfl
 neB5 := by decide }
open Go.RowKit in
theorem Tryz.Builder_String (B b : Nat) (l : List UInt8) (w : World) (h : Lib.IsBuilder 332 5 B b (Lib.byteCells l) w) (h0 : l ≠ []) :
  Calls Tryz.prog 213 #[.pointer (some ⟨b, 0, none⟩)] w fun e w' => e = .returned (.string ⟨l.toArray⟩) ∧ Below B w w' := Any.Builder_String Tryz.lays169 Tryz.Builder_Extra_169 B b l w h h0
def Tryz.lays190_ren : Go.Shelf.Ren := ⟨fun | 190 => 75 | 125 => 118 | 258 => 117 | 128 => 168 | 129 => 169 | 302 => 159 | 303 => 160 | 304 => 161 | 305 => 162 | 306 => 163 | 307 => 164 | 308 => 165 | 309 => 166 | 310 => 167 | 333 => 217 | 329 => 218 | 330 => 219 | 334 => 220 | 335 => 221 | 336 => 222 | 344 => 284 | n => n, fun | 31 => 141 | 9 => 9 | 3 => 3 | 46 => 236 | 0 => 0 | 51 => 295 | 53 => 297 | 4 => 4 | 183 => 289 | 182 => 288 | 131 => 272 | 5 => 5 | 218 => 342 | 222 => 81 | 228 => 403 | 229 => 320 | n => n, fun | n => n⟩
theorem Tryz.lays190 : Go.Proofs.Lays.n190 Tryz.prog Tryz.lays190_ren := {
 mixed := by kernel_rfl
 f125 := Tryz.func118.trans (congrArg some (by kernel_rfl))
 f128 := Tryz.func168.trans (congrArg some (by kernel_rfl))
 f129 := Tryz.func169.trans (congrArg some (by kernel_rfl))
 f190 := Tryz.func75.trans (congrArg some (by kernel_rfl))
 f258 := Tryz.func117.trans (congrArg some (by kernel_rfl))
 f302 := Tryz.func159.trans (congrArg some (by kernel_rfl))
 f303 := Tryz.func160.trans (congrArg some (by kernel_rfl))
 f304 := Tryz.func161.trans (congrArg some (by kernel_rfl))
 f305 := Tryz.func162.trans (congrArg some (by kernel_rfl))
 f306 := Tryz.func163.trans (congrArg some (by kernel_rfl))
 f307 := Tryz.func164.trans (congrArg some (by kernel_rfl))
 f308 := Tryz.func165.trans (congrArg some (by kernel_rfl))
 f309 := Tryz.func166.trans (congrArg some (by kernel_rfl))
 f310 := Tryz.func167.trans (congrArg some (by kernel_rfl))
 f329 := Tryz.func218.trans (congrArg some (by kernel_rfl))
 f330 := Tryz.func219.trans (congrArg some (by kernel_rfl))
 f333 := Tryz.func217.trans (congrArg some (by kernel_rfl))
 f334 := Tryz.func220.trans (congrArg some (by kernel_rfl))
 f335 := Tryz.func221.trans (congrArg some (by kernel_rfl))
 f336 := Tryz.func222.trans (congrArg some (by kernel_rfl))
 f344 := Tryz.func284.trans (congrArg some (by kernel_rfl))
 t0 := Tryz.underlying0
 a0 := Tryz.isAgg0
 z0 := Tryz.sizeOf0
 v0 := Tryz.zeroValue0
 t3 := Tryz.underlying3
 a3 := Tryz.isAgg3
 z3 := Tryz.sizeOf3
 v3 := Tryz.zeroValue3
 t4 := Tryz.underlying4
 a4 := Tryz.isAgg4
 z4 := Tryz.sizeOf4
 v4 := Tryz.zeroValue4
 t5 := Tryz.underlying5
 a5 := Tryz.isAgg5
 z5 := Tryz.sizeOf5
 v5 := Tryz.zeroValue5
 t9 := Tryz.underlying9
 a9 := Tryz.isAgg9
 z9 := Tryz.sizeOf9
 v9 := Tryz.zeroValue9
 t31 := Tryz.underlying141
 a31 := Tryz.isAgg141
 z31 := Tryz.sizeOf141
 v31 := Tryz.zeroValue141
 t46 := Tryz.underlying236
 a46 := Tryz.isAgg236
 z46 := Tryz.sizeOf236
 v46 := Tryz.zeroValue236
 t51 := Tryz.underlying295
 a51 := Tryz.isAgg295
 z51 := Tryz.sizeOf295
 v51 := Tryz.zeroValue295
 t53 := Tryz.underlying297
 a53 := Tryz.isAgg297
 z53 := Tryz.sizeOf297
 v53 := Tryz.zeroValue297
 t131 := Tryz.underlying272
 a131 := Tryz.isAgg272
 z131 := Tryz.sizeOf272
 v131 := Tryz.zeroValue272
 t182 := Tryz.underlying288
 a182 := Tryz.isAgg288
 z182 := Tryz.sizeOf288
 v182 := Tryz.zeroValue288
 t183 := Tryz.underlying289
 a183 := Tryz.isAgg289
 z183 := Tryz.sizeOf289
 v183 := Tryz.zeroValue289
 t218 := Tryz.underlying342
 a218 := Tryz.isAgg342
 z218 := Tryz.sizeOf342
 v218 := Tryz.zeroValue342
 t222 := Tryz.underlying81
 a222 := Tryz.isAgg81
 z222 := Tryz.sizeOf81
 v222 := Tryz.zeroValue81
 t228 := Tryz.underlying403
 a228 := Tryz.isAgg403
 z228 := Tryz.sizeOf403
 v228 := Tryz.zeroValue403
 t229 := Tryz.underlying320
 a229 := Tryz.isAgg320
 z229 := Tryz.sizeOf320
 v229 := Tryz.zeroValue320 }
open Go.Sort Go.RowKit in
theorem Tryz.slices_Sort_string (blk off cap : Nat) (ss : List (List UInt8)) (w : World) (hH : Holds encStr w blk off ss.toArray) (hblk : blk < w.heap.size) (hsz : ss.length < 4611686018427387904) :
  Calls Tryz.prog 75 #[.slice (some ⟨blk, off, none⟩) ss.length cap] w fun e w' =>
   e = .returned (.tuple #[]) ∧ ∃ n os, w' = grow (putRow encStr (Sort.ahead w n) blk off (ss.mergeSort fun x y => decide (x ≤ y)).toArray) os := Any.slices_Sort_string Tryz.lays190 blk off cap ss w hH hblk hsz
open Go.RowKit Go.Sort in
theorem Tryz.slices_Sort_string_none (p : Option Addr) (cap : Nat) (w : World) :
  Calls Tryz.prog 75 #[.slice p 0 cap] w fun e w' => e = .returned (.tuple #[]) ∧ w' = w := Any.slices_Sort_string_none Tryz.lays190 p cap w
def Tryz.lays187_ren : Go.Shelf.Ren := ⟨fun | 187 => 317 | 255 => 325 | n => n, fun | 37 => 213 | 5 => 5 | 3 => 3 | n => n, fun | n => n⟩
theorem Tryz.lays187 : Go.Proofs.Lays.n187 Tryz.prog Tryz.lays187_ren := {
 mixed := by kernel_rfl
 f187 := Tryz.func317.trans (congrArg some (by kernel_rfl))
 f255 := Tryz.func325.trans (congrArg some (by kernel_rfl))
 t3 := Tryz.underlying3
 a3 := Tryz.isAgg3
 z3 := Tryz.sizeOf3
 v3 := Tryz.zeroValue3
 t5 := Tryz.underlying5
 a5 := Tryz.isAgg5
 z5 := Tryz.sizeOf5
 v5 := Tryz.zeroValue5
 t37 := Tryz.underlying213
 a37 := Tryz.isAgg213
 z37 := Tryz.sizeOf213
 v37 := Tryz.zeroValue213 }
theorem Tryz.bytes_IndexByte (b o n c : Nat) (xs : List Int) (cv : Int) (w : World) (hx : xs.length = n) (hc : ∀ i, i < n → w.cell? ⟨b, o + i, none⟩ = some (.int .u8 (xs.getD i 0))) :
  Calls Tryz.prog 317 #[.slice (some ⟨b, o, none⟩) n c, .int .u8 cv] w fun e w' => e = .returned (.int .i64 (Lib.indexByte (Lib.bytesOf xs) cv.toNat.toUInt8)) ∧ w' = w := Any.bytes_IndexByte Tryz.lays187 b o n c xs cv w hx hc
end Go.Proofs
end
section
namespace Go.Proofs.YtcllaplddebilaaGreatDoor
open Go.RowKit Go.Sort
attribute [local go_sem] cell?_grow frozen?_grow cell?_redrawn frozen?_redrawn size_redrawn size_grow ba_get ba_extract
attribute [local simp] size_redrawn
open Go.Lib
theorem sort_one (b cap : Nat) (cs : Array Value) (s : ByteArray) (w : World) (hb : w.heap[b]? = some (.cells cs 9 (0, 0))) (h0 : cs[0]? = some (.string s)) :
  Calls Tryz.prog 75 #[.slice (some ⟨b, 0, none⟩) 1 cap] w fun e w' => e = .returned (.tuple #[]) ∧ Below w.heap.size w w' := by
 have hlt := lt_blk hb
 have hl : encStr s.data.toList = .string s := rfl
 have hH : Holds encStr w b 0 ([s.data.toList] : List (List UInt8)).toArray := by
  intro j hj
  have hj0 : j = 0 := by simp at hj; omega
  subst hj0
  refine ⟨?_, frozen_blk hb _ (by omega)⟩
  rw [cell_blk hb]
  exact h0.trans (congrArg some hl.symm)
 refine (Tryz.slices_Sort_string b 0 cap [s.data.toList] w hH hlt (by simp)).mono ?_
 rintro e w' ⟨rfl, n, os, rfl⟩
 refine ⟨rfl, ?_⟩
 have hH2 : Holds encStr (Sort.ahead w n) b 0 ([s.data.toList] : List (List UInt8)).toArray := hH
 have hm : ([s.data.toList] : List (List UInt8)).mergeSort (fun x y => decide (x ≤ y)) = [s.data.toList] := by simp
 rw [hm, putRow_self _ _ _ _ _ hH2]
 refine ⟨rfl, rfl, rfl, by simp [grow, Sort.ahead], fun k hk => ?_⟩
 show ((Sort.ahead w n).heap ++ os)[k]? = _
 rw [Array.getElem?_append_left (by exact hk)]
 rfl
end Go.Proofs.YtcllaplddebilaaGreatDoor
end

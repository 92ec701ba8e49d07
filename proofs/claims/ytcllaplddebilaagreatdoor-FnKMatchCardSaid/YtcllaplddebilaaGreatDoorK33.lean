/- laws.FnKMatch: a part of the proof: Laid. -/
import Derived.ChangeKeys
import Derived.LaidHandle
import Derived.LaidLaws
import Derived.Lib.LaidTab
import Derived.MakeChecks
import Derived.Stop.LaidErr
import Derived.StringKeys
import Derived.Test.YtcllaplddebilaaGreatDoorRows
import Derived.WideKeyElems2
import Derived.Test.YtcllaplddebilaaGreatDoorK18
import Derived.Test.YtcllaplddebilaaGreatDoorK31
set_option maxRecDepth 1000000
set_option maxHeartbeats 64000000
set_option linter.unusedVariables false
set_option linter.unusedSimpArgs false
namespace Go.Proofs.YtcllaplddebilaaGreatDoor
open Go.RowKit Go.Sort
attribute [local go_sem] cell?_grow frozen?_grow cell?_redrawn frozen?_redrawn size_redrawn size_grow ba_get ba_extract
attribute [local simp] size_redrawn
open Go.Lib Go.WideElems Go.ChangeShapes Go.WideShapes Go.MapKept Go.ChangeMaps
theorem star_es : "*" ++ "errors.errorString" = "*errors.errorString" := by decide
theorem row_es (u : TypeId) (h : Tryz.prog.typeName? 3 u = some "*errors.errorString") : u = 188 :=
 typeName_ptr_named (nm := "errors.errorString") (by rw [star_es]; kernel_rfl) (by kernel_rfl) (by decide) u (by rw [star_es]; exact h)
theorem sentinel {n : String} {text : List UInt8} {r : List (String × DataW Unit)} {W : World} {g : Nat} (h : laidMet Tryz.prog ((n, .iface "*errors.errorString" (.ptr (.agg [.lit (.string text)]))) :: r) W) (hg : Tryz.prog.globalNamed n = some g) (ht : (Tryz.prog.globals[g]?).map (·.type) = some 61) :
  ∃ a : Addr, W.cell? ⟨g, 0, none⟩ = some (.iface 188 (.pointer (some a))) := by
 obtain ⟨a, s, hv, _⟩ := laid_sentinel h hg ht Tryz.underlying61 row_es Tryz.underlying188 Tryz.underlying190 rfl rfl Tryz.underlying9 (by kernel_rfl) (by kernel_rfl)
 exact ⟨a, by have := World.var?_cell hg hv 0; simpa using this⟩
theorem elemAt_str {H : Type} {enc : TypeId × Value → H} {P : Program} {W : World} {base : Nat} {held : Bool} {e : TypeId} (he : P.underlying e = some .string) {sp : Nat → Bool} {n : Nat} {v : Value} {z : DataW H × List MemPlace} (h : elemAt enc P W base sp held n e v = some z) : ∃ s : ByteArray, v = .string s ∧ z.1 = .lit (.string s.data.toList) := by
 unfold elemAt at h
 split at h
 ·rename_i hf
  obtain ⟨a, hc, hz, hw⟩ := DataW.trod_string he h
  cases v <;> simp [Value.formed, he, Value.cells] at hf hc
  subst hc
  exact ⟨_, rfl, by rw [hz]⟩
 ·cases h
theorem ba_data {a b : ByteArray} (h : a.data.toList = b.data.toList) : a = b := by
 cases a; cases b
 simpa using h
open Classical in
noncomputable def tabF (es : List MapEntry) (s : ByteArray) : Option ByteArray := match es.find? (fun x => decide (x.key = .string s)) with
 | some x => (match x.val with
  | .string v => some v
  | _ => none)
 | none => none
theorem map_of_data {n : String} {L : List (Lit × DataW Unit)} {r : List (String × DataW Unit)} {W : World} {g : Nat} {t k e : TypeId} (h : laidMet Tryz.prog ((n, .map L) :: r) W) (hg : Tryz.prog.globalNamed n = some g) (ht : (Tryz.prog.globals[g]?).map (·.type) = some t)
  (hm : Tryz.prog.underlying t = some (.map k e)) (hk : Tryz.prog.underlying k = some .string) (he : Tryz.prog.underlying e = some .string) :
  ∃ (f : ByteArray → Option ByteArray) (M : Nat), W.cell? ⟨g, 0, none⟩ = some (.map (some M)) ∧ MapF W M (fun s => (f s).map .string) ∧ ∀ s v : ByteArray, (Lit.string s.data.toList, DataW.lit (Lit.string v.data.toList)) ∈ L → f s = some v := by
 obtain ⟨ps, ⟨g0, t0, cs, fuel, p, q, hg0, ht0, hv0, hd0, _, e0⟩, _, _⟩ := h
 obtain rfl := Option.some.inj (hg.symm.trans hg0)
 obtain rfl := Option.some.inj (ht.symm.trans ht0)
 rcases WideElems.open_map hm hd0 with ⟨_, hx⟩ | ⟨M, es, clock, m, rfl, hcs, hb, _, F, hx⟩
 ·simp at hx
 simp only [Prod.mk.injEq, DataW.map.injEq] at hx
 have hcell : W.cell? ⟨g, 0, none⟩ = some (.map (some M)) := by
  have := World.var?_cell hg hv0 0
  rw [Array.eq_one_of_toList hcs] at this
  simpa using this
 have hent : ∀ x ∈ es.toList, ∃ s v : ByteArray, x.key = .string s ∧ x.val = .string v ∧ rg Tryz.prog k (elemAt (fun _ => ()) Tryz.prog W 0 (fun _ => true) false m e) x = (.string s.data.toList, .lit (.string v.data.toList)) := by
  intro x hx
  obtain ⟨y, hy⟩ := F.reads x hx
  have hr := rg_of hy
  unfold WideElems.rd at hy
  obtain ⟨kl, h1, h2⟩ := Option.bind_eq_some_iff.1 hy
  obtain ⟨z, h3, h4⟩ := Option.map_eq_some_iff.1 h2
  obtain ⟨v, hv, hz⟩ := elemAt_str he h3
  rw [keyOf_string hk] at h1
  unfold mapKey at h1
  rw [hk] at h1
  split at h1 <;> simp_all
 have hkeys := ((stamped_iff es clock).1 F.stamped).2.2
 have huniq : ∀ (i j : Nat) (a b : MapEntry), es.toList[i]? = some a → es.toList[j]? = some b → a.key = b.key → i = j := by
  intro i j a b ha hb2 hab
  obtain ⟨hi, rfl⟩ := List.getElem?_eq_some_iff.1 ha
  obtain ⟨hj, rfl⟩ := List.getElem?_eq_some_iff.1 hb2
  rw [List.pairwise_iff_getElem] at hkeys
  rcases Nat.lt_trichotomy i j with h | h | h
  ·exact absurd hab (hkeys i j hi hj h)
  ·exact h
  ·exact absurd hab.symm (hkeys j i hj hi h)
 have hfind : ∀ x ∈ es.toList, ∀ s v : ByteArray, x.key = .string s → x.val = .string v → tabF es.toList s = some v := by
  intro x hx s v hkx hvx
  unfold tabF
  split
  ·rename_i y hy
   have hyk := List.find?_some hy
   have hym := List.mem_of_find?_eq_some hy
   have hyk : y.key = .string s := by simpa using hyk
   obtain ⟨i, hi⟩ := List.getElem?_of_mem hx
   obtain ⟨j, hj⟩ := List.getElem?_of_mem hym
   have hij := huniq i j x y hi hj (hkx.trans hyk.symm)
   subst hij
   obtain rfl : x = y := Option.some.inj (hi.symm.trans hj)
   rw [hvx]
  ·rename_i hn
   have := List.find?_eq_none.1 hn x hx
   exact absurd hkx (by simpa using this)
 refine ⟨tabF es.toList, M, hcell, ⟨es, clock, hb, ⟨?_, ?_, ?_, huniq⟩⟩, ?_⟩
 ·intro x hx
  obtain ⟨s, v, h1, h2, _⟩ := hent x hx
  rw [h1]
  exact trivial
 ·intro s hs x hx hxk
  obtain ⟨s', v, h1, h2, _⟩ := hent x hx
  have := hfind x hx s v hxk h2
  simp only [this] at hs
  cases hs
 ·intro s v hs
  cases hf : tabF es.toList s with
  | none => rw [hf] at hs; cases hs
  | some u =>
   rw [hf] at hs
   obtain rfl : Value.string u = v := Option.some.inj hs
   unfold tabF at hf
   split at hf
   ·rename_i y hy
    have hyk := List.find?_some hy
    have hym := List.mem_of_find?_eq_some hy
    obtain ⟨j, hj⟩ := List.getElem?_of_mem hym
    refine ⟨j, y, hj, by simpa using hyk, ?_⟩
    split at hf
    ·rename_i hv
     rw [hv, Option.some.inj hf]
    ·cases hf
   ·cases hf
 ·intro s v hm2
  rw [hx.1] at hm2
  have hp := (sorted_perm _).mem_iff.1 hm2
  obtain ⟨x, hx2, hxe⟩ := List.mem_map.1 hp
  obtain ⟨s', v', h1, h2, h3⟩ := hent x hx2
  rw [h3] at hxe
  simp only [Prod.mk.injEq, Lit.string.injEq, DataW.lit.injEq] at hxe
  obtain rfl := ba_data hxe.1
  obtain rfl := ba_data hxe.2
  exact hfind x hx2 _ _ h1 h2
theorem laid_env {W : World} (h : laidMetH Tryz.prog Rows.fnKMatchRow.laid W) : ∃ (f : ByteArray → Option ByteArray) (ea ef : Addr), Er W ea ef ∧ Gl W ∧ Dv W f ∧ TabOk f := by
 rw [MakeChecks.laidMetH_plain _ _ _ (by kernel_rfl)] at h
 have h1 := laidMet.tail h
 have hg27 : Tryz.prog.globalNamed "math/bits.deBruijn64tab" = some 27 := by kernel_rfl
 have hB := Lib.TabIs.cell (Lib.tabIs_of_head (k := .u8) (zs := [0, 1, 56, 2, 57, 49, 28, 3, 61, 58, 42, 50, 38, 29, 17, 4, 62, 47, 59, 36, 45, 43, 51, 22, 53, 39, 33, 30, 24, 18, 12, 5, 63, 55, 48, 27, 60, 41, 37, 16, 46, 35, 44, 21, 52, 32, 23, 11, 54, 26, 40, 15, 34, 20, 31, 10, 25, 14, 19, 9, 13, 8, 7, 6]) (g := 27) (by kernel_rfl) (by kernel_rfl) (Tryz.underlying450) (Tryz.underlying5) (by kernel_rfl) (by kernel_rfl) h1) hg27 0 (by decide)
 have hsz : 28 ≤ W.heap.size := World.block_lt_of_cell? W ⟨27, 0, none⟩ hB
 have h7 := laidMet.tail (laidMet.tail (laidMet.tail (laidMet.tail (laidMet.tail (laidMet.tail h1)))))
 have hS := Lib.tabIs_of_head (k := .i64) (zs := [260, 265, 1038, 1040, 1042, 276]) (g := 13) (by kernel_rfl) (by kernel_rfl) (Tryz.underlying411) (Tryz.underlying3) (by kernel_rfl) (by kernel_rfl) h7
 have hg : Tryz.prog.globalNamed "given.example/pub-calendrier/pub/ztime.std0x" = some 13 := by kernel_rfl
 have h12 := laidMet.tail (laidMet.tail (laidMet.tail (laidMet.tail (laidMet.tail h7))))
 obtain ⟨ea, hea⟩ := sentinel (g := 1) h12 (by kernel_rfl) (by kernel_rfl)
 have h15 := laidMet.tail (laidMet.tail (laidMet.tail h12))
 obtain ⟨ef, hef⟩ := sentinel (g := 16) h15 (by kernel_rfl) (by kernel_rfl)
 have h24 := laidMet.tail (laidMet.tail (laidMet.tail (laidMet.tail (laidMet.tail (laidMet.tail (laidMet.tail (laidMet.tail (laidMet.tail h15))))))))
 obtain ⟨f, M, hc, hM, hL⟩ := map_of_data (g := 0) h24 (by kernel_rfl) (by kernel_rfl) Tryz.underlying251 Tryz.underlying9 Tryz.underlying186
 refine ⟨f, ea, ef, ⟨hsz, hea, hef⟩, ⟨hsz, hS.cell hg 0 (by decide), hS.cell hg 1 (by decide), hS.cell hg 3 (by decide), hS.cell hg 4 (by decide)⟩, ⟨M, hc, hM⟩, ?_, ?_⟩
 ·intro n hn
  apply hL
  simp only [momNames, List.mem_cons, List.mem_nil_iff, or_false] at hn
  rcases hn with rfl | rfl | rfl | rfl | rfl | rfl | rfl | rfl
  all_goals (unfold nmDT; simp)
 ·apply hL
  unfold nmDUR
  simp
end Go.Proofs.YtcllaplddebilaaGreatDoor

/- laws.FnKMatch: a part of the proof: NoDigit, MapOf, Comp, Props, ValType, Chunk. -/
import Derived.Test.YtcllaplddebilaaGreatDoorK10
set_option maxRecDepth 1000000
set_option maxHeartbeats 64000000
set_option linter.unusedVariables false
set_option linter.unusedSimpArgs false
section
namespace Go.Proofs.YtcllaplddebilaaGreatDoor
open Go.RowKit Go.Sort
attribute [local go_sem] cell?_grow frozen?_grow cell?_redrawn frozen?_redrawn size_redrawn size_grow ba_get ba_extract
attribute [local simp] size_redrawn
open Go.Lib Go.Proofs.YtcllaplddebilaaGreatDoorW.PrintWords Go.Proofs.YtcllaplddebilaaGreatDoorW.PrintLast Go.Proofs.YtcllaplddebilaaGreatDoorW.PrintMore PFnKMatch
theorem noDigit (s : ByteArray) (k : Nat) (w : World) (hk : k < s.size) (hd : ∀ j (h : j < s.size), j < k → dgt (s[j]'h)) (hn : ¬ dgt (s[k]'hk)) (ha : (s[k]'hk).toNat < 128) (hm : s.size ≤ 140737488351232) :
  Calls Tryz.prog 315 #[.string s] w fun e w' => e = .returned (.int .i64 k) ∧ Below w.heap.size w w' := by
 have HD := hI hd
 have HN := hI hn
 clear hd hn
 go_enter Tryz.func315, Tryz.ntmps315
 go_wp2_with fail
 go_loopg [] s.size (fun g wr => ∃ j : Nat, g = s.size - j ∧ wr = w.iter s j ∧ j ≤ k)
 case atStart => exact ⟨0, rfl, rfl, by omega⟩
 case round =>
  obtain ⟨j, rfl, rfl, hj⟩ := hrel
  have hlt : j < s.size := by omega
  have hnx := fun ty => run_next_any (P := Tryz.prog) w s j ty hlt
  by_cases he : j = k
  ·subst he
   rw [decode_ascii s j hlt ha] at hnx
   have hB : Below w.heap.size w (w.iter s (j + 1)) := (Below.refl _ _).alloc (Nat.le_refl _) _
   have hB := hI hB
   have hnd := HN.out
   unfold dgt at hnd
   obtain ⟨c, hc⟩ : ∃ c : Int, c = ((s[j]'hlt).toNat : Int) := ⟨_, rfl⟩
   rw [← hc] at hnd
   have hc0 : 0 ≤ c := by omega
   by_cases a1 : c < 48
   ·go_wp2
    go_ret
    exact ⟨rfl, hB.out⟩
   ·go_wp2
    go_ret
    exact ⟨rfl, hB.out⟩
  ·have hjk : j < k := by omega
   have hdg := HD.out j hlt hjk
   unfold dgt at hdg
   rw [decode_ascii s j hlt (by omega)] at hnx
   go_wp2
   go_roundg (s.size - (j + 1))
   case measure => omega
   case rel => exact ⟨j + 1, rfl, rfl, by omega⟩
theorem info_str9 : (Tryz.prog.info? 9).map (fun i => (i.zero, i.size, i.bytes)) = some (some (.string { data := #[] }), 1, 16) := by kernel_rfl
def lookP (ps : List S151) (n : ByteArray) : List ByteArray := (ps.filter fun q => decide (q.f0 = n)).flatMap (·.f1)
theorem lookP_snoc (ps : List S151) (q : S151) : lookP (ps ++ [q]) = updG (lookP ps) q.f0 (lookP ps q.f0 ++ q.f1) := by
 funext n
 unfold updG lookP
 by_cases h : n = q.f0
 ·subst h
  rw [if_pos rfl]
  simp
 ·have h2 : ¬ q.f0 = n := fun e => h e.symm
  rw [if_neg h]
  simp [h2]
theorem lookP_len (ps : List S151) (n : ByteArray) (h : ∀ q ∈ ps, okQ q) : (lookP ps n).length ≤ 10 * ps.length := by
 induction ps with
 | nil => simp [lookP]
 | cons q ps ih =>
  have h1 := ih (fun x hx => h x (List.mem_cons_of_mem _ hx))
  have h2 := (h q List.mem_cons_self).2.1
  unfold lookP at h1 ⊢
  rw [List.filter_cons]
  split
  ·rw [List.flatMap_cons, List.length_append, List.length_cons]; omega
  ·rw [List.length_cons]; omega
def MapOfPost (w : World) (ps : List S151) (e : Ending) (w' : World) : Prop := ∃ (M : Nat) (f : ByteArray → Option Value), e = .returned (.map (some M)) ∧ w.heap.size ≤ M ∧ GMap Kd.string 9 w' w.heap.size M (lookP ps) f ∧ Below w.heap.size w w'
theorem mapOf (ps : List S151) (A : Option Addr) (c : Nat) (w : World) (h : k151.C w A ps.length ps) (hq : ∀ q ∈ ps, okQ q) (hl : ps.length ≤ 10) :
  Calls Tryz.prog 45 #[.slice A ps.length c] w (MapOfPost w ps) := by
 have hmm := @run_makeMap Tryz.prog
 have HQ := hI hq
 clear hq
 go_enter Tryz.func45, Tryz.ntmps45
 go_wp2_with fail
 go_loopw [9] (fun i wr => ∃ (k : Nat) (f : ByteArray → Option Value), k ≤ ps.length ∧ i = .int .i64 k ∧ Below w.heap.size w wr ∧ GMap Kd.string 9 wr w.heap.size w.heap.size (lookP (ps.take k)) f) (fun i _ => ps.length - (RowKit.intOf i).toNat)
 case atStart => exact ⟨0, _, Nat.zero_le _, rfl, (Below.refl _ _).alloc (Nat.le_refl _) _, GMap.empty (new_blk w _)⟩
 case round =>
  obtain ⟨k, f, hk, rfl, hB, hM⟩ := hrel
  have HM := hI hM
  clear hM
  by_cases hlt : k < ps.length
  ·obtain ⟨q, hqe⟩ : ∃ q, ps[k]? = some q := ⟨_, List.getElem?_eq_getElem hlt⟩
   obtain ⟨ad, V, cv, rfl, hlv, hrv, g0, g1⟩ := at151 (Kd.C_below h hB) k q hqe
   have hqe := hI hqe
   go_wp2_with fail
   have hbx := new_blk wr (.cells #[.string q.f0, .slice V q.f1.length cv] 151)
   have hb1 : Below wr.heap.size wr (wr.alloc (.cells #[.string q.f0, .slice V q.f1.length cv] 151)) := below_alloc (Below.refl _ _) _
   generalize hw2 : wr.alloc _ = w2 at hbx hb1 ⊢
   clear hw2 g0 g1
   have hbd : Below wr.heap.size wr w2.drew := hb1.drew
   have hM2 := HM.out.below flat_string hbd
   have hB2 := hB.trans (hbd.mono hB.size)
   have hV2 := Kd.C_below hrv hbd
   have hX := (show w2.drew.heap[wr.heap.size]? = _ from hbx)
   have q0 := (cell_blk hbx 0).trans rfl
   have q1 := (cell_blk hbx 1).trans rfl
   have q2 := hM2.look q.f0 (P := Tryz.prog) (mty := 112) Tryz.underlying112 Tryz.underlying9 (fun _ => by kernel_rfl)
   clear hbx hb1 HM hrv hB
   refine start_ (n := 11) (S := fun W => W.cell? ⟨wr.heap.size, 0, none⟩ = some (.string q.f0) ∧ W.cell? ⟨wr.heap.size, 1, none⟩ = some (.slice V q.f1.length cv) ∧ (Instr.lookup 112 (.map (some w.heap.size)) (.string q.f0) false).run Tryz.prog W = .ok ((f q.f0).getD nilS) W) (ds := [10]) (bM 11 0) (by kernel_rfl) rfl (by kernel_rfl) ⟨q0, q1, q2⟩ (fun hHeld => ?_)
   generalize w2.drew = w3 at hM2 hB2 hV2 hX hHeld hbd ⊢
   have hs3 := hbd.size
   have HM2 := hI hM2
   have HB2 := hI hB2
   have HV2 := hI hV2
   have HX := hI hX
   clear hM2 hB2 hV2 hX q0 q1 q2 hbd
   refine pU 0 11 1 (some 13) rfl rfl (by kernel_rfl) rfl (fun _ => by go_simp; with_reducible rfl) (by simp only [sW]; rfl) ?_
   refine pU 1 11 3 (some 14) rfl rfl (by kernel_rfl) rfl (fun _ => by go_simp; with_reducible rfl) (by simp only [sW]; rfl) ?_
   refine tA 2 11 7 (some 15) rfl rfl (by kernel_rfl) rfl (fun _ ⟨s0, s1, s2⟩ => by go_simp; with_reducible rfl) hHeld (by simp only [sW]; rfl) ?_
   refine pU 3 11 15 (some 16) rfl rfl (by kernel_rfl) rfl (fun _ => by go_simp; with_reducible rfl) (by simp only [sW]; rfl) ?_
   refine pU 4 11 31 (some 17) rfl rfl (by kernel_rfl) rfl (fun _ => by go_simp; with_reducible rfl) (by simp only [sW]; rfl) ?_
   refine tA 5 11 63 (some 18) rfl rfl (by kernel_rfl) rfl (fun _ ⟨s0, s1, s2⟩ => by go_simp; with_reducible rfl) hHeld (by simp only [sW]; rfl) ?_
   refine tA 6 11 127 (some 19) rfl rfl (by kernel_rfl) rfl (fun _ ⟨s0, s1, s2⟩ => by go_simp; with_reducible rfl) hHeld (by simp only [sW]; rfl) ?_
   refine pU 7 11 255 (some 20) rfl rfl (by kernel_rfl) rfl (fun _ => by go_simp; with_reducible rfl) (by simp only [sW]; rfl) ?_
   refine tA 8 11 511 (some 21) rfl rfl (by kernel_rfl) rfl (fun _ ⟨s0, s1, s2⟩ => by go_simp; with_reducible rfl) hHeld (by simp only [sW]; rfl) ?_
   refine oN 9 11 1023 (some 22) rfl rfl (by kernel_rfl) (by decide) (fun K hK => ?_)
   refine Kd.R_append_rows_step Kd.string (w0 := w) w.heap.size (by rfl) _ _ 141 9 (.string { data := #[] }) 16 rfl Tryz.underlying141 info_str9 rfl (by decide) (by decide) ((f q.f0).getD nilS) (lookP (ps.take k) q.f0) q.f1 V q.f1.length cv (fun _ => True) (fun _ => False) (by rfl) (by rfl) (HM2.out.at_ q.f0) HV2.out (fun _ _ h => h) (fun _ h => h.elim) (fun _ _ => trivial) HB2.out HB2.out.size ?_ ?_
   ·have h1 := lookP_len (ps.take k) q.f0 (fun x hx => HQ.out x (List.mem_of_mem_take hx))
    have h2 := (HQ.out q (List.mem_of_getElem? hqe.out)).2.1
    have h3 : (ps.take k).length ≤ k := List.length_take_le _ _
    omega
   intro v1 w4 hR3 hB3 hg3 hat3
   have hne : ∀ b, some b = ((f q.f0).getD nilS).ownBlock → b ≠ w.heap.size ∧ b ≠ wr.heap.size := by
    intro b hb
    cases hf : f q.f0 with
    | none => rw [hf] at hb; simp [nilS, Value.ownBlock] at hb
    | some v =>
     rw [hf] at hb
     refine ⟨HM2.out.ne hf b hb.symm, ?_⟩
     rintro rfl
     obtain ⟨_, _, cs, hc⟩ := R_typed (HM2.out.row q.f0 v hf) _ hb.symm
     rw [HX.out] at hc
     injection hc with hc
     injection hc with _ hc
     cases hc
   have hX1 := (hg3.block wr.heap.size (by have := lt_blk HX.out; omega) (fun e => (hne _ e).2 rfl)).trans HX.out
   have hmp : MapF w4 w.heap.size f := HM2.out.map.of_heap (hg3.block _ HM2.out.map.lt (fun e => (hne _ e).1 rfl))
   obtain ⟨o, hrun, ho⟩ := hmp.put (P := Tryz.prog) (mty := 112) q.f0 v1 Tryz.underlying112 Tryz.underlying9
   have hlk1 : (Instr.lookup 112 (.map (some w.heap.size)) (.string q.f0) false).run Tryz.prog w4 = .ok ((f q.f0).getD nilS) w4 := by
    cases hf : f q.f0 with
    | none => exact hmp.miss hf false nilS Tryz.underlying112 Tryz.underlying9 (by kernel_rfl)
    | some v => exact hmp.get hf false Tryz.underlying112 Tryz.underlying9
   have hG := HM2.out.put flat_string q.f0 hg3 hR3 hat3 ho
   refine hK.out _ _ ⟨(cell_blk hX1 0).trans rfl, (cell_blk hX1 1).trans rfl, hlk1⟩ (fun hHeld => ?_)
   clear hK K
   refine norm_ (by show Act.put _ (some 22) _ = _; simp only [sW]; rfl) ?_
   refine lA 10 11 2047 none rfl rfl (by kernel_rfl) (by decide) (fun K hK => ?_)
   refine skip_ (w1 := ?_) (by rfl) rfl ?_ ?_; rotate_left; (go_simp; first | rfl | done)
   refine hK.out _ _ ?_
   clear hK K
   refine done_ (by kernel_rfl) ?_
   have hB5 := below_mset hB3 w.heap.size o (Nat.le_refl _)
   rw [← lookP_snoc, ← take_snoc' ps k q hqe.out] at hG
   generalize hw5 : ({ w4 with heap := w4.heap.setIfInBounds w.heap.size o } : World) = w5 at hG hB5 ⊢
   have HG := hI hG
   clear hw5 hG hrun ho hmp hlk1 hX1 hne hat3 hg3 hR3 hB3 HM2 HB2 HV2 HX
   go_wp2
   go_roundw
   case rel => exact ⟨k + 1, _, by omega, by go_num, hB5, HG.out⟩
   case measure => simp [RowKit.intOf]; omega
  ·obtain rfl : k = ps.length := by omega
   have hfin : MapOfPost w ps (.returned (.map (some w.heap.size))) wr := ⟨w.heap.size, f, rfl, Nat.le_refl _, by have := HM.out; rwa [List.take_length] at this, hB⟩
   have hfin := hI hfin
   clear HM
   go_wp2
   go_ret
   exact hfin.out
structure GP where
 name : ByteArray
 m : Nat
 value : ByteArray
def kGP : Kd GP := Kd.iso (Kd.pair Kd.string (Kd.pair (Kd.scalar (fun n : Nat => Value.map (some n)) (fun _ => rfl)) Kd.string)) (fun x => (x.name, x.m, x.value))
theorem kGP_open {w : World} {x : GP} {cs : List Value} (h : kGP.K w x cs) : cs = [.string x.name, .map (some x.m), .string x.value] := by
 obtain ⟨_, _, rfl, rfl, ⟨_, _, rfl, rfl, rfl⟩⟩ := h
 rfl
theorem kGP_mkM (w : World) (base : Nat) (ok : Nat → Prop) (x : GP) : kGP.M w base ok x [.string x.name, .map (some x.m), .string x.value] :=
 ⟨[.string x.name], [.map (some x.m), .string x.value], rfl, rfl, ⟨[.map (some x.m)], [.string x.value], rfl, rfl, rfl⟩⟩
theorem flat_GP : Flat kGP := fun _ _ _ _ _ _ _ h => h
def lookG (gs : List GP) (n : ByteArray) : List GP := gs.filter fun g => decide (g.name = n)
theorem lookG_snoc (gs : List GP) (g : GP) : lookG (gs ++ [g]) = updG (lookG gs) g.name (lookG gs g.name ++ [g]) := by
 funext n
 unfold updG lookG
 by_cases h : n = g.name
 ·subst h
  rw [if_pos rfl]
  simp
 ·have h2 : ¬ g.name = n := fun e => h e.symm
  rw [if_neg h]
  simp [h2]
section
variable {w w1 : World} {lo hi : Nat}
structure GIn {α : Type} (d : Kd α) (e : Nat) (w : World) (lo hi r : Nat) (g : ByteArray → List α) : Prop where
 ge : lo ≤ r
 lt : r < hi
 map : ∃ f, GMap d e w lo r g f ∧ ∀ n v k, f n = some v → v.ownBlock = some k → k < hi
theorem GIn.of {α : Type} {d : Kd α} {e r : Nat} {g : ByteArray → List α} {f : ByteArray → Option Value} (h : GMap d e w lo r g f) (h1 : lo ≤ r) : GIn d e w lo w.heap.size r g :=
 ⟨h1, h.map.lt, f, h, fun n v k hv hk => (R_typed (h.row n v hv) k hk).2.1⟩
theorem GIn.keep {α : Type} {d : Kd α} {e r : Nat} {g : ByteArray → List α} (hM : Flat d) (h : GIn d e w lo hi r g) (hk : ∀ k, lo ≤ k → k < hi → (k = r ∨ ∃ cs, w.heap[k]? = some (.cells cs e (0, 0))) → w1.heap[k]? = w.heap[k]?) : GIn d e w1 lo hi r g := by
 obtain ⟨f, hf, hh⟩ := h.map
 exact ⟨h.ge, h.lt, f, hf.keep hM (hk r h.ge h.lt (.inl rfl)) (fun n v k hv hb => by
  obtain ⟨h1, _, h3⟩ := R_typed (hf.row n v hv) k hb
  exact hk k h1 (hh n v k hv hb) (.inr h3)), hh⟩
theorem GIn.wide {α : Type} {d : Kd α} {e r : Nat} {g : ByteArray → List α} (h : GIn d e w lo hi r g) {lo' hi' : Nat} (h1 : lo' ≤ lo) (h2 : hi ≤ hi') : GIn d e w lo' hi' r g := by
 obtain ⟨f, hf, hh⟩ := h.map
 exact ⟨Nat.le_trans h1 h.ge, Nat.lt_of_lt_of_le h.lt h2, f, ⟨hf.map, hf.non, fun n v hv => Kd.R_lower (hf.row n v hv) h1, hf.apart⟩, fun n v k hv hb => Nat.lt_of_lt_of_le (hh n v k hv hb) h2⟩
abbrev PIn (w : World) (lo hi M : Nat) (ps : List S151) : Prop := GIn Kd.string 9 w lo hi M (lookP ps)
structure QIn (w : World) (lo hi P0 : Nat) (ps : List S75) (gs : List GP) : Prop where
 map : GIn kGP 116 w lo hi P0 (lookG gs)
 len : gs.length = ps.length
 each : ∀ (j : Nat) g p, gs[j]? = some g → ps[j]? = some p → g.name = p.f0 ∧ g.value = p.f2 ∧ PIn w lo hi g.m p.f1
def QTyped (w : World) (k : Nat) : Prop := (∃ es c, w.heap[k]? = some (.map es c)) ∨ (∃ cs, w.heap[k]? = some (.cells cs 9 (0, 0))) ∨ (∃ cs, w.heap[k]? = some (.cells cs 116 (0, 0)))
theorem GIn.isMap {α : Type} {d : Kd α} {e r : Nat} {g : ByteArray → List α} (h : GIn d e w lo hi r g) : ∃ es c, w.heap[r]? = some (.map es c) := by
 obtain ⟨f, hf, _⟩ := h.map
 obtain ⟨es, c, hb, _⟩ := hf.map
 exact ⟨es, c, hb⟩
theorem QIn.keepT {P0 : Nat} {ps : List S75} {gs : List GP} (h : QIn w lo hi P0 ps gs) (hk : ∀ k, lo ≤ k → k < hi → QTyped w k → w1.heap[k]? = w.heap[k]?) : QIn w1 lo hi P0 ps gs := by
 refine ⟨h.map.keep flat_GP (fun k a b hc => hk k a b ?_), h.len, fun j g p hg hp => ?_⟩
 ·rcases hc with rfl | hc
  ·exact .inl h.map.isMap
  ·exact .inr (.inr hc)
 ·obtain ⟨h1, h2, h3⟩ := h.each j g p hg hp
  refine ⟨h1, h2, h3.keep flat_string (fun k a b hc => hk k a b ?_)⟩
  rcases hc with rfl | hc
  ·exact .inl h3.isMap
  ·exact .inr (.inl hc)
theorem QIn.keep {P0 : Nat} {ps : List S75} {gs : List GP} (h : QIn w lo hi P0 ps gs) (hk : ∀ k, lo ≤ k → k < hi → w1.heap[k]? = w.heap[k]?) : QIn w1 lo hi P0 ps gs := h.keepT (fun k a b _ => hk k a b)
theorem QIn.wide {P0 : Nat} {ps : List S75} {gs : List GP} (h : QIn w lo hi P0 ps gs) {lo' hi' : Nat} (h1 : lo' ≤ lo) (h2 : hi ≤ hi') : QIn w lo' hi' P0 ps gs :=
 ⟨h.map.wide h1 h2, h.len, fun j g p hg hp => by
  obtain ⟨a, b, c⟩ := h.each j g p hg hp
  exact ⟨a, b, c.wide h1 h2⟩⟩
def KRow (w : World) (lo hi : Nat) (A : Option Addr) (ch : List Nat) : Prop := ch = [] ∨ ∃ g cur, A = some ⟨g, 0, none⟩ ∧ lo ≤ g ∧ g < hi ∧ w.heap[g]? = some (.cells cur 63 (0, 0)) ∧ ∀ (i : Nat) C, ch[i]? = some C → cur[i]? = some (.pointer (some ⟨C, 0, none⟩))
inductive CompIn (w : World) (lo hi : Nat) : Nat → S36 → Prop
 | mk (C P0 : Nat) (x : S36) (A : Option Addr) (c : Nat) (ch : List Nat) (gs : List GP) : lo ≤ C → C < hi →
   w.heap[C]? = some (.cells #[.string x.f0, .map (some P0), .slice A x.f2.length c] 110) → QIn w lo hi P0 x.f1 gs → ch.length = x.f2.length → KRow w lo hi A ch →
   (∀ (i Ci : Nat) (y : S36), ch[i]? = some Ci → x.f2[i]? = some y → CompIn w lo hi Ci y) → CompIn w lo hi C x
theorem CompIn.keep {C : Nat} {x : S36} (h : CompIn w lo hi C x) (hk : ∀ k, lo ≤ k → k < hi → w1.heap[k]? = w.heap[k]?) : CompIn w1 lo hi C x := by
 induction h with
 | mk C P0 x A c ch gs h1 h2 h3 h4 h5 h6 _ ih =>
  refine .mk C P0 x A c ch gs h1 h2 ((hk C h1 h2).trans h3) (h4.keep hk) h5 ?_ ih
  rcases h6 with h6 | ⟨g, cur, e, a, b, hb, hc⟩
  ·exact .inl h6
  ·exact .inr ⟨g, cur, e, a, b, (hk g a b).trans hb, hc⟩
theorem CompIn.wide {C : Nat} {x : S36} (h : CompIn w lo hi C x) {lo' hi' : Nat} (a : lo' ≤ lo) (b : hi ≤ hi') : CompIn w lo' hi' C x := by
 induction h with
 | mk C P0 x A c ch gs h1 h2 h3 h4 h5 h6 _ ih =>
  refine .mk C P0 x A c ch gs (Nat.le_trans a h1) (Nat.lt_of_lt_of_le h2 b) h3 (h4.wide a b) h5 ?_ ih
  rcases h6 with h6 | ⟨g, cur, e, a', b', hb, hc⟩
  ·exact .inl h6
  ·exact .inr ⟨g, cur, e, Nat.le_trans a a', Nat.lt_of_lt_of_le b' b, hb, hc⟩
theorem CompIn.later {C : Nat} {x : S36} (h : CompIn w lo hi C x) (hh : hi ≤ w.heap.size) (hb : Below w.heap.size w w1) : CompIn w1 lo hi C x :=
 h.keep (fun k _ h2 => hb.block k (Nat.lt_of_lt_of_le h2 hh))
theorem GIn.later {α : Type} {d : Kd α} {e r : Nat} {g : ByteArray → List α} (hM : Flat d) (h : GIn d e w lo hi r g) (hh : hi ≤ w.heap.size) (hb : Below w.heap.size w w1) : GIn d e w1 lo hi r g :=
 h.keep hM (fun k _ h2 _ => hb.block k (Nat.lt_of_lt_of_le h2 hh))
theorem PIn.grown {W w2 : World} {M P0 base : Nat} {ps : List S151} {v : Value} {xs : List GP} {ok : Nat → Prop} (h : PIn W lo hi M ps) (hR : kGP.R 116 W base ok v xs) (hg : W.grownBy w2 v.ownBlock) (hhi : hi ≤ W.heap.size) (hP0 : P0 < lo) (o : Obj) :
  PIn { w2 with heap := w2.heap.setIfInBounds P0 o } lo hi M ps := by
 refine h.keep flat_string (fun k a b hc => ?_)
 rw [mset_other _ _ _ _ (by omega)]
 refine hg.block k (by omega) ?_
 intro hv
 obtain ⟨_, _, cs, hcs⟩ := R_typed hR k hv.symm
 rcases hc with rfl | ⟨cs', hcs'⟩
 ·obtain ⟨es, c, hm⟩ := h.isMap
  rw [hm] at hcs
  cases hcs
 ·rw [hcs'] at hcs
  injection hcs with hcs
  injection hcs with _ hcs
  cases hcs
def kPt : Kd Nat := Kd.scalar (fun n : Nat => Value.pointer (some ⟨n, 0, none⟩)) (fun _ => rfl)
theorem flat_Pt : Flat kPt := fun _ _ _ _ _ _ _ h => h
theorem KRow.of {base : Nat} {ok : Nat → Prop} {v : Value} {ch : List Nat} (h : kPt.R 63 w base ok v ch) : ∃ A c, v = .slice A ch.length c ∧ KRow w base w.heap.size A ch := by
 have ho := Kd.own_of_R (enc := fun n : Nat => Value.pointer (some ⟨n, 0, none⟩)) (h1 := fun _ => rfl) h
 rcases ho.2 with ⟨rfl, h0⟩ | ⟨g, cap, cur, rfl, hb, hh, _, _, _, ht⟩
 ·obtain rfl : ch = [] := List.eq_nil_of_length_eq_zero (by simpa [encs] using h0)
  exact ⟨none, 0, rfl, .inl rfl⟩
 ·refine ⟨_, cap, rfl, .inr ⟨g, cur, rfl, hb, lt_blk hh, hh, fun i C hi => ?_⟩⟩
  have hl : i < ch.length := (List.getElem?_eq_some_iff.1 hi).1
  rw [← Array.getElem?_toList]
  have h2 := congrArg (fun l : List Value => l[i]?) ht
  rw [List.getElem?_take_of_lt (by simpa using hl)] at h2
  rw [h2]
  simp [encs, hi]
end
theorem row0 {α : Type} {d : Kd α} {e base : Nat} {w : World} {ok : Nat → Prop} {v : Value} {x : α} {xs : List α} (h : d.R e w base ok v (x :: xs)) :
  ∃ g cap c, v = .slice (some ⟨g, 0, none⟩) (xs.length + 1) cap ∧ d.K w x c ∧ g < w.heap.size ∧ ∀ j u, c[j]? = some u → w.cell? ⟨g, j, none⟩ = some u := by
 obtain ⟨_, inner, ho, hr⟩ := h
 rcases ho.2 with ⟨_, h0⟩ | ⟨g, cap, cur, rfl, hb, hh, _, _, hsz, ht⟩
 ·simp at h0
 ·have hr0 := hr.2 0 x rfl
  have hK := d.K_of_M hr0
  refine ⟨g, cap, _, rfl, hK, lt_blk hh, fun j u hu => ?_⟩
  rw [Nat.zero_mul, List.drop_zero] at hu
  obtain ⟨hl, _⟩ := List.getElem?_eq_some_iff.1 hu
  rw [List.getElem?_take_of_lt (Nat.lt_of_lt_of_le hl (List.length_take_le _ _))] at hu
  rw [cell_blk hh, ← Array.getElem?_toList]
  rw [← ht] at hu
  obtain ⟨hl2, _⟩ := List.getElem?_eq_some_iff.1 hu
  rw [List.getElem?_take_of_lt (Nat.lt_of_lt_of_le hl2 (List.length_take_le _ _))] at hu
  exact hu
def paramGet (ps : List S151) (n : ByteArray) : ByteArray := (lookP ps n).headD { data := #[] }
theorem paramsGet (w : World) (lo hi M : Nat) (ps : List S151) (n : ByteArray) (h : PIn w lo hi M ps) (hn : upper n = n) (hs : n.size ≤ 4294967296) :
  Calls Tryz.prog 87 #[.map (some M), .string n] w fun e w' => e = .returned (.string (paramGet ps n)) ∧ Below w.heap.size w w' := by
 obtain ⟨f, hf, hhi⟩ := h.map
 go_enter Tryz.func87, Tryz.ntmps87
 go_wp2_with fail
 refine (upper_ical n w hs).mono ?_
 rintro e w1 ⟨rfl, hb⟩
 rw [hn]
 have hf1 := hf.below flat_string hb
 have hlk := hf1.look n (P := Tryz.prog) (mty := 114) Tryz.underlying114 Tryz.underlying9 (fun _ => by kernel_rfl)
 have hr := hf1.at_ n
 have hB := hI hb
 clear hb hf1
 cases hl : lookP ps n with
 | nil =>
  rw [hl] at hr
  obtain ⟨A, c, hv, _⟩ := Kd.R_reads hr
  rw [hv] at hlk
  have hg : paramGet ps n = { data := #[] } := by unfold paramGet; rw [hl]; rfl
  have hg := hI hg
  clear hl hv
  go_wp2
  go_ret
  exact ⟨by rw [hg.out]; rfl, hB.out⟩
 | cons x xs =>
  rw [hl] at hr
  obtain ⟨g, cap, c, hv, hK, _, hc⟩ := row0 hr
  rw [hv] at hlk
  have hK' : c = [.string x] := hK
  subst hK'
  have c0 := hc 0 _ rfl
  have hg : paramGet ps n = x := by unfold paramGet; rw [hl]; rfl
  have hg := hI hg
  clear hl hv hK hc
  go_wp2
  go_ret
  exact ⟨by rw [hg.out]; rfl, hB.out⟩
def firstP (ps : List S75) (n : ByteArray) : Option S75 := ps.find? fun p => decide (p.f0 = n)
theorem first_G (R : GP → S75 → Prop) (n : ByteArray) : ∀ (gs : List GP) (ps : List S75), gs.length = ps.length → (∀ (j : Nat) g p, gs[j]? = some g → ps[j]? = some p → g.name = p.f0 ∧ R g p) →
  (lookG gs n = [] ∧ firstP ps n = none) ∨ ∃ g l p, lookG gs n = g :: l ∧ firstP ps n = some p ∧ g.name = p.f0 ∧ R g p
 | [], [], _, _ => .inl ⟨rfl, rfl⟩
 | [], p :: ps, h, _ => by simp at h
 | g :: gs, [], h, _ => by simp at h
 | g :: gs, p :: ps, h, hr => by
  have h0 := hr 0 g p rfl rfl
  unfold lookG firstP
  by_cases hn : p.f0 = n
  ·refine .inr ⟨g, gs.filter (fun g => decide (g.name = n)), p, ?_, ?_, h0⟩
   ·rw [List.filter_cons, if_pos (by simp [h0.1, hn])]
   ·rw [List.find?_cons]; simp [hn]
  ·have ih := first_G R n gs ps (by simpa using h) (fun j a b ha hb => hr (j + 1) a b ha hb)
   rw [List.filter_cons, if_neg (by simp [h0.1, hn]), List.find?_cons]
   simp only [hn, decide_false]
   exact ih
def PrAt (w : World) (g : Nat) (p : S75) : Prop := ∃ M lo hi, w.cell? ⟨g, 0, none⟩ = some (.string p.f0) ∧ w.cell? ⟨g, 1, none⟩ = some (.map (some M)) ∧ w.cell? ⟨g, 2, none⟩ = some (.string p.f2) ∧ PIn w lo hi M p.f1 ∧ hi ≤ w.heap.size
theorem PrAt.below {w w1 : World} {g : Nat} {p : S75} (h : PrAt w g p) (hb : Below w.heap.size w w1) : PrAt w1 g p := by
 obtain ⟨M, lo, hi, a, b, c, d, e⟩ := h
 exact ⟨M, lo, hi, pw_cell_below hb a, pw_cell_below hb b, pw_cell_below hb c, d.later flat_string e hb, Nat.le_trans e hb.size⟩
theorem QIn.later {w w1 : World} {lo hi P0 : Nat} {ps : List S75} {gs : List GP} (h : QIn w lo hi P0 ps gs) (hh : hi ≤ w.heap.size) (hb : Below w.heap.size w w1) : QIn w1 lo hi P0 ps gs := h.keep (fun k _ h2 => hb.block k (Nat.lt_of_lt_of_le h2 hh))
def GetPost (w : World) (r : Option S75) (e : Ending) (w' : World) : Prop := (r = none ∧ e = .returned (.pointer none) ∧ Below w.heap.size w w') ∨ ∃ p g, r = some p ∧ e = .returned (.pointer (some ⟨g, 0, none⟩)) ∧ PrAt w' g p ∧ Below w.heap.size w w'
theorem propsGet (w : World) (lo hi P0 : Nat) (ps : List S75) (gs : List GP) (n : ByteArray) (h : QIn w lo hi P0 ps gs) (hh : hi ≤ w.heap.size) (hn : upper n = n) (hs : n.size ≤ 4294967296) :
  Calls Tryz.prog 77 #[.map (some P0), .string n] w (GetPost w (firstP ps n)) := by
 go_enter Tryz.func77, Tryz.ntmps77
 go_wp2_with fail
 refine (upper_ical n w hs).mono ?_
 rintro e w1 ⟨rfl, hb⟩
 rw [hn]
 have h1 := h.later hh hb
 obtain ⟨f, hf1, hhi⟩ := h1.map.map
 have hlk := hf1.look n (P := Tryz.prog) (mty := 107) Tryz.underlying107 Tryz.underlying9 (fun _ => by kernel_rfl)
 have hr := hf1.at_ n
 have hB := hI hb
 have hh1 : hi ≤ w1.heap.size := Nat.le_trans hh hb.size
 clear hb hf1
 rcases first_G (fun g p => g.value = p.f2 ∧ PIn w1 lo hi g.m p.f1) n gs ps h1.len h1.each with ⟨hl, hp⟩ | ⟨g, l, p, hl, hp, e1, e2, e3⟩
 ·rw [hl] at hr
  obtain ⟨A, c, hv, _⟩ := Kd.R_reads hr
  rw [hv] at hlk
  have hfin : GetPost w (firstP ps n) (.returned (.pointer none)) w1 := .inl ⟨hp, rfl, hB.out⟩
  have hfin := hI hfin
  clear hl hv hp
  go_wp2
  go_ret
  exact hfin.out
 ·rw [hl] at hr
  obtain ⟨b, cap, c, hv, hK, _, hc⟩ := row0 hr
  rw [hv] at hlk
  obtain rfl := kGP_open hK
  have c0 := hc 0 _ rfl
  have c1 := hc 1 _ rfl
  have c2 := hc 2 _ rfl
  have hfin : GetPost w (firstP ps n) (.returned (.pointer (some ⟨b, 0, none⟩))) w1 := .inr ⟨p, b, hp, rfl, ⟨g.m, lo, hi, by rw [c0, e1], c1, by rw [c2, e2], e3, hh1⟩, hB.out⟩
  have hfin := hI hfin
  clear hl hv hp hK hc c0 c1 c2
  go_wp2
  go_ret
  exact hfin.out
def Dv (w : World) (f : ByteArray → Option ByteArray) : Prop := ∃ M, w.cell? ⟨0, 0, none⟩ = some (.map (some M)) ∧ MapF w M (fun s => (f s).map .string)
theorem Dv.below {w w1 : World} {f : ByteArray → Option ByteArray} (h : Dv w f) (hb : Below w.heap.size w w1) : Dv w1 f := by
 obtain ⟨M, a, b⟩ := h
 exact ⟨M, pw_cell_below hb a, b.of_heap (hb.block M b.lt)⟩
theorem Dv.look {w : World} {f : ByteArray → Option ByteArray} (h : Dv w f) (s : ByteArray) : ∃ M, w.cell? ⟨0, 0, none⟩ = some (.map (some M)) ∧ (Instr.lookup 251 (.map (some M)) (.string s) false).run Tryz.prog w = .ok (.string ((f s).getD { data := #[] })) w := by
 obtain ⟨M, a, b⟩ := h
 refine ⟨M, a, ?_⟩
 cases hf : f s with
 | none => exact b.miss (by show (f s).map _ = none; rw [hf]; rfl) false (.string { data := #[] }) Tryz.underlying251 Tryz.underlying9 (by kernel_rfl)
 | some v => exact b.get (v := .string v) (by show (f s).map _ = _; rw [hf]; rfl) false Tryz.underlying251 Tryz.underlying9
theorem notEmpty {t : ByteArray} (h : ¬ t = { data := #[] }) : t.toList.isEmpty = false := by
 cases hl : t.toList with
 | nil =>
  rw [Lib.toList_data] at hl
  obtain ⟨⟨l⟩⟩ := t
  have hl : l = [] := hl
  subst hl
  exact absurd rfl h
 | cons a l => rfl
def valT (f : ByteArray → Option ByteArray) (p : S75) : ByteArray := if paramGet p.f1 { data := #[86, 65, 76, 85, 69] } = { data := #[] } then (f p.f0).getD { data := #[] } else paramGet p.f1 { data := #[86, 65, 76, 85, 69] }
theorem valueType (w : World) (g : Nat) (p : S75) (f : ByteArray → Option ByteArray) (h : PrAt w g p) (hD : Dv w f) :
  Calls Tryz.prog 85 #[.pointer (some ⟨g, 0, none⟩)] w fun e w' => e = .returned (.string (valT f p)) ∧ Below w.heap.size w w' := by
 have h0 := h
 obtain ⟨M, lo, hi, c0, c1, c2, hP, hh⟩ := h
 go_enter Tryz.func85, Tryz.ntmps85
 go_wp2_with fail
 refine (paramsGet w lo hi M p.f1 _ hP (by decide +kernel) (by decide)).mono ?_
 rintro e w1 ⟨rfl, hb⟩
 have c01 := pw_cell_below hb c0
 obtain ⟨D, d0, hl⟩ := (hD.below hb).look p.f0
 have hl2 : (Instr.lookup 251 (.map (some D)) (.string p.f0) false).run Tryz.prog w1.drew = .ok (.string ((f p.f0).getD { data := #[] })) w1.drew := by
  obtain ⟨D2, d2, hl2⟩ := ((hD.below hb).below ((Below.refl _ _).drew)).look p.f0
  have : D2 = D := by
   have := d2.symm.trans d0
   injection this with this; injection this with this; injection this
  rw [this] at hl2; exact hl2
 have hB := hI hb
 by_cases hv : paramGet p.f1 { data := #[86, 65, 76, 85, 69] } = { data := #[] }
 ·have hV : valT f p = (f p.f0).getD { data := #[] } := if_pos hv
  have hV := hI hV
  rw [hv]
  clear h0 hP hh c0 c1 c2 hb hv
  go_wp2
  go_region
  go_wp2
  go_ret
  exact ⟨by rw [hV.out]; rfl, hB.out.drew⟩
 ·have hV : valT f p = paramGet p.f1 { data := #[86, 65, 76, 85, 69] } := if_neg hv
  have hV := hI hV
  have hv' := notEmpty hv
  clear h0 hP hh c0 c1 c2 hb
  generalize paramGet p.f1 _ = pg at hv' hv hV ⊢
  go_wp2
  go_ret
  exact ⟨by rw [hV.out]; rfl, hB.out⟩
end Go.Proofs.YtcllaplddebilaaGreatDoor
end
section
namespace Go.Proofs.YtcllaplddebilaaGreatDoor
open Go.RowKit Go.Sort
attribute [local go_sem] cell?_grow frozen?_grow cell?_redrawn frozen?_redrawn size_redrawn size_grow ba_get ba_extract
attribute [local simp] size_redrawn
structure Gl (w : World) : Prop where
 size : 28 ≤ w.heap.size
 x0 : w.cell? ⟨13, 0, none⟩ = some (.int .i64 260)
 x1 : w.cell? ⟨13, 1, none⟩ = some (.int .i64 265)
 x3 : w.cell? ⟨13, 3, none⟩ = some (.int .i64 1040)
 x4 : w.cell? ⟨13, 4, none⟩ = some (.int .i64 1042)
theorem Gl.below {B : Nat} {w w' : World} (h : Gl w) (hb : Below B w w') (hB : 28 ≤ B) : Gl w' where
 size := Nat.le_trans h.size hb.size
 x0 := (hb.cell (p := ⟨_, _, none⟩) (by simp; omega)).trans h.x0
 x1 := (hb.cell (p := ⟨_, _, none⟩) (by simp; omega)).trans h.x1
 x3 := (hb.cell (p := ⟨_, _, none⟩) (by simp; omega)).trans h.x3
 x4 := (hb.cell (p := ⟨_, _, none⟩) (by simp; omega)).trans h.x4
theorem chunk0 (w : World) (hG : Gl w) : Calls Tryz.prog 239 #[.string { data := #[50, 48, 48, 54, 48, 49, 48, 50] }] w fun e w' => e = .returned (.tuple #[.string { data := #[] }, .int .i64 275, .string { data := #[48, 49, 48, 50] }]) ∧ Below w.heap.size w w' := by
 have g0 := hG.x0
 have g1 := hG.x1
 have g3 := hG.x3
 have g4 := hG.x4
 go_enter Tryz.func239, Tryz.ntmps239
 go_wp2
 refine wp_loop_rounds 1 ?_
 rw [rounds_succ]
 go_wp2
 try go_quiet (fail)
 try go_wp2
 go_ret3
 exact ⟨rfl, by (repeat (first | exact Below.refl _ _ | (refine below_drewN ?_ _) | (refine Below.trans ?_ ((below_regrown _ _ _).mono (by simp <;> omega))) | (refine Below.drew ?_) | (refine Below.alloc ?_ (by simp <;> omega) _) | (refine Below.setCell ?_ (by simp <;> omega) _) | assumption))⟩
theorem chunk1 (w : World) (hG : Gl w) : Calls Tryz.prog 239 #[.string { data := #[48, 49, 48, 50] }] w fun e w' => e = .returned (.tuple #[.string { data := #[] }, .int .i64 260, .string { data := #[48, 50] }]) ∧ Below w.heap.size w w' := by
 have g0 := hG.x0
 have g1 := hG.x1
 have g3 := hG.x3
 have g4 := hG.x4
 go_enter Tryz.func239, Tryz.ntmps239
 go_wp2
 refine wp_loop_rounds 1 ?_
 rw [rounds_succ]
 go_wp2
 try go_quiet (fail)
 try go_wp2
 go_ret3
 exact ⟨rfl, by (repeat (first | exact Below.refl _ _ | (refine below_drewN ?_ _) | (refine Below.trans ?_ ((below_regrown _ _ _).mono (by simp <;> omega))) | (refine Below.drew ?_) | (refine Below.alloc ?_ (by simp <;> omega) _) | (refine Below.setCell ?_ (by simp <;> omega) _) | assumption))⟩
theorem chunk2 (w : World) (hG : Gl w) : Calls Tryz.prog 239 #[.string { data := #[48, 50] }] w fun e w' => e = .returned (.tuple #[.string { data := #[] }, .int .i64 265, .string { data := #[] }]) ∧ Below w.heap.size w w' := by
 have g0 := hG.x0
 have g1 := hG.x1
 have g3 := hG.x3
 have g4 := hG.x4
 go_enter Tryz.func239, Tryz.ntmps239
 go_wp2
 refine wp_loop_rounds 1 ?_
 rw [rounds_succ]
 go_wp2
 try go_quiet (fail)
 try go_wp2
 go_ret3
 exact ⟨rfl, by (repeat (first | exact Below.refl _ _ | (refine below_drewN ?_ _) | (refine Below.trans ?_ ((below_regrown _ _ _).mono (by simp <;> omega))) | (refine Below.drew ?_) | (refine Below.alloc ?_ (by simp <;> omega) _) | (refine Below.setCell ?_ (by simp <;> omega) _) | assumption))⟩
theorem chunk3 (w : World) (hG : Gl w) : Calls Tryz.prog 239 #[.string { data := #[] }] w fun e w' => e = .returned (.tuple #[.string { data := #[] }, .int .i64 0, .string { data := #[] }]) ∧ Below w.heap.size w w' := by
 have g0 := hG.x0
 have g1 := hG.x1
 have g3 := hG.x3
 have g4 := hG.x4
 go_enter Tryz.func239, Tryz.ntmps239
 go_wp2
 refine wp_loop_rounds 1 ?_
 rw [rounds_succ]
 go_wp2
 try go_quiet (fail)
 try go_wp2
 go_ret3
 exact ⟨rfl, by (repeat (first | exact Below.refl _ _ | (refine below_drewN ?_ _) | (refine Below.trans ?_ ((below_regrown _ _ _).mono (by simp <;> omega))) | (refine Below.drew ?_) | (refine Below.alloc ?_ (by simp <;> omega) _) | (refine Below.setCell ?_ (by simp <;> omega) _) | assumption))⟩
theorem chunk4 (w : World) (hG : Gl w) : Calls Tryz.prog 239 #[.string { data := #[50, 48, 48, 54, 48, 49, 48, 50, 84, 49, 53, 48, 52, 48, 53, 90] }] w fun e w' => e = .returned (.tuple #[.string { data := #[] }, .int .i64 275, .string { data := #[48, 49, 48, 50, 84, 49, 53, 48, 52, 48, 53, 90] }]) ∧ Below w.heap.size w w' := by
 have g0 := hG.x0
 have g1 := hG.x1
 have g3 := hG.x3
 have g4 := hG.x4
 go_enter Tryz.func239, Tryz.ntmps239
 go_wp2
 refine wp_loop_rounds 1 ?_
 rw [rounds_succ]
 go_wp2
 try go_quiet (fail)
 try go_wp2
 go_ret3
 exact ⟨rfl, by (repeat (first | exact Below.refl _ _ | (refine below_drewN ?_ _) | (refine Below.trans ?_ ((below_regrown _ _ _).mono (by simp <;> omega))) | (refine Below.drew ?_) | (refine Below.alloc ?_ (by simp <;> omega) _) | (refine Below.setCell ?_ (by simp <;> omega) _) | assumption))⟩
theorem chunk5 (w : World) (hG : Gl w) : Calls Tryz.prog 239 #[.string { data := #[48, 49, 48, 50, 84, 49, 53, 48, 52, 48, 53, 90] }] w fun e w' => e = .returned (.tuple #[.string { data := #[] }, .int .i64 260, .string { data := #[48, 50, 84, 49, 53, 48, 52, 48, 53, 90] }]) ∧ Below w.heap.size w w' := by
 have g0 := hG.x0
 have g1 := hG.x1
 have g3 := hG.x3
 have g4 := hG.x4
 go_enter Tryz.func239, Tryz.ntmps239
 go_wp2
 refine wp_loop_rounds 1 ?_
 rw [rounds_succ]
 go_wp2
 try go_quiet (fail)
 try go_wp2
 go_ret3
 exact ⟨rfl, by (repeat (first | exact Below.refl _ _ | (refine below_drewN ?_ _) | (refine Below.trans ?_ ((below_regrown _ _ _).mono (by simp <;> omega))) | (refine Below.drew ?_) | (refine Below.alloc ?_ (by simp <;> omega) _) | (refine Below.setCell ?_ (by simp <;> omega) _) | assumption))⟩
theorem chunk6 (w : World) (hG : Gl w) : Calls Tryz.prog 239 #[.string { data := #[48, 50, 84, 49, 53, 48, 52, 48, 53, 90] }] w fun e w' => e = .returned (.tuple #[.string { data := #[] }, .int .i64 265, .string { data := #[84, 49, 53, 48, 52, 48, 53, 90] }]) ∧ Below w.heap.size w w' := by
 have g0 := hG.x0
 have g1 := hG.x1
 have g3 := hG.x3
 have g4 := hG.x4
 go_enter Tryz.func239, Tryz.ntmps239
 go_wp2
 refine wp_loop_rounds 1 ?_
 rw [rounds_succ]
 go_wp2
 try go_quiet (fail)
 try go_wp2
 go_ret3
 exact ⟨rfl, by (repeat (first | exact Below.refl _ _ | (refine below_drewN ?_ _) | (refine Below.trans ?_ ((below_regrown _ _ _).mono (by simp <;> omega))) | (refine Below.drew ?_) | (refine Below.alloc ?_ (by simp <;> omega) _) | (refine Below.setCell ?_ (by simp <;> omega) _) | assumption))⟩
theorem chunk7 (w : World) (hG : Gl w) : Calls Tryz.prog 239 #[.string { data := #[84, 49, 53, 48, 52, 48, 53, 90] }] w fun e w' => e = .returned (.tuple #[.string { data := #[84] }, .int .i64 1036, .string { data := #[48, 52, 48, 53, 90] }]) ∧ Below w.heap.size w w' := by
 have g0 := hG.x0
 have g1 := hG.x1
 have g3 := hG.x3
 have g4 := hG.x4
 go_enter Tryz.func239, Tryz.ntmps239
 go_wp2
 refine wp_loop_rounds 2 ?_
 rw [rounds_succ]
 go_wp2
 rw [rounds_succ]
 go_wp2
 try go_quiet (fail)
 try go_wp2
 go_ret3
 exact ⟨rfl, by (repeat (first | exact Below.refl _ _ | (refine below_drewN ?_ _) | (refine Below.trans ?_ ((below_regrown _ _ _).mono (by simp <;> omega))) | (refine Below.drew ?_) | (refine Below.alloc ?_ (by simp <;> omega) _) | (refine Below.setCell ?_ (by simp <;> omega) _) | assumption))⟩
theorem chunk8 (w : World) (hG : Gl w) : Calls Tryz.prog 239 #[.string { data := #[48, 52, 48, 53, 90] }] w fun e w' => e = .returned (.tuple #[.string { data := #[] }, .int .i64 1040, .string { data := #[48, 53, 90] }]) ∧ Below w.heap.size w w' := by
 have g0 := hG.x0
 have g1 := hG.x1
 have g3 := hG.x3
 have g4 := hG.x4
 go_enter Tryz.func239, Tryz.ntmps239
 go_wp2
 refine wp_loop_rounds 1 ?_
 rw [rounds_succ]
 go_wp2
 try go_quiet (fail)
 try go_wp2
 go_ret3
 exact ⟨rfl, by (repeat (first | exact Below.refl _ _ | (refine below_drewN ?_ _) | (refine Below.trans ?_ ((below_regrown _ _ _).mono (by simp <;> omega))) | (refine Below.drew ?_) | (refine Below.alloc ?_ (by simp <;> omega) _) | (refine Below.setCell ?_ (by simp <;> omega) _) | assumption))⟩
theorem chunk9 (w : World) (hG : Gl w) : Calls Tryz.prog 239 #[.string { data := #[48, 53, 90] }] w fun e w' => e = .returned (.tuple #[.string { data := #[] }, .int .i64 1042, .string { data := #[90] }]) ∧ Below w.heap.size w w' := by
 have g0 := hG.x0
 have g1 := hG.x1
 have g3 := hG.x3
 have g4 := hG.x4
 go_enter Tryz.func239, Tryz.ntmps239
 go_wp2
 refine wp_loop_rounds 1 ?_
 rw [rounds_succ]
 go_wp2
 try go_quiet (fail)
 try go_wp2
 go_ret3
 exact ⟨rfl, by (repeat (first | exact Below.refl _ _ | (refine below_drewN ?_ _) | (refine Below.trans ?_ ((below_regrown _ _ _).mono (by simp <;> omega))) | (refine Below.drew ?_) | (refine Below.alloc ?_ (by simp <;> omega) _) | (refine Below.setCell ?_ (by simp <;> omega) _) | assumption))⟩
theorem chunk10 (w : World) (hG : Gl w) : Calls Tryz.prog 239 #[.string { data := #[90] }] w fun e w' => e = .returned (.tuple #[.string { data := #[90] }, .int .i64 0, .string { data := #[] }]) ∧ Below w.heap.size w w' := by
 have g0 := hG.x0
 have g1 := hG.x1
 have g3 := hG.x3
 have g4 := hG.x4
 go_enter Tryz.func239, Tryz.ntmps239
 go_wp2
 refine wp_loop_rounds 2 ?_
 rw [rounds_succ]
 go_wp2
 rw [rounds_succ]
 go_wp2
 try go_quiet (fail)
 try go_wp2
 go_ret3
 exact ⟨rfl, by (repeat (first | exact Below.refl _ _ | (refine below_drewN ?_ _) | (refine Below.trans ?_ ((below_regrown _ _ _).mono (by simp <;> omega))) | (refine Below.drew ?_) | (refine Below.alloc ?_ (by simp <;> omega) _) | (refine Below.setCell ?_ (by simp <;> omega) _) | assumption))⟩
end Go.Proofs.YtcllaplddebilaaGreatDoor
end

/- laws.FnKMatch: a part of the proof: KData, ISize, SpecStr, Upper. -/
import Derived.Laws.RangeAny
import Derived.Test.YtcllaplddebilaaGreatDoorK00
import Derived.Test.YtcllaplddebilaaGreatDoorK03
set_option maxRecDepth 1000000
set_option maxHeartbeats 64000000
set_option linter.unusedVariables false
set_option linter.unusedSimpArgs false
section
namespace Go.Proofs.YtcllaplddebilaaGreatDoor
open Go.RowKit Go.Sort
attribute [local go_sem] cell?_grow frozen?_grow cell?_redrawn frozen?_redrawn size_redrawn size_grow ba_get ba_extract
attribute [local simp] size_redrawn
open Go.Lib Go.Proofs.YtcllaplddebilaaGreatDoorW.PrintWords Go.Proofs.YtcllaplddebilaaGreatDoorW.PrintLast Go.Proofs.YtcllaplddebilaaGreatDoorW.PrintMore PFnKMatch
abbrev KT := Option (ByteArray × Bool)
def TxtAt (w : World) (p : Option Addr) (x : KT) : Prop := match x with
 | none => p = none
 | some t => ∃ b o : Nat, p = some ⟨b, o, none⟩ ∧ w.cell? ⟨b, o, none⟩ = some (.string t.1) ∧ w.cell? ⟨b, o + 1, none⟩ = some (.bool t.2)
theorem TxtAt.below {w w1 : World} {p : Option Addr} {x : KT} (hb : Below w.heap.size w w1) (h : TxtAt w p x) : TxtAt w1 p x := by
 cases x with
 | none => exact h
 | some t =>
  obtain ⟨b, o, e, h1, h2⟩ := h
  exact ⟨b, o, e, pw_cell_below hb h1, pw_cell_below hb h2⟩
def kTxt : Kd KT where
 sz := 1
 E := []
 K := fun w x cs => ∃ p, cs = [.pointer p] ∧ TxtAt w p x
 M := fun _ _ _ _ _ => False
 K_len := by rintro w x cs ⟨p, rfl, _⟩; rfl
 K_one := by
  rintro w x cs ⟨p, rfl, _⟩ u hu
  rw [List.mem_singleton.1 hu]
  rfl
 K_below := by rintro w w1 x cs hb ⟨p, rfl, h⟩; exact ⟨p, rfl, h.below hb⟩
 K_of_M := fun h => h.elim
 M_mono := fun _ h => h
 M_bound := fun h => h
 M_move := fun _ h => h
 M_lower := fun _ h => h
structure KPa where
 name : ByteArray
 absent : Bool
 text : KT
def kPa : Kd KPa := Kd.iso (Kd.pair Kd.string (Kd.pair Kd.bool kTxt)) (fun x => (x.name, x.absent, x.text))
theorem kPa_open {w : World} {x : KPa} {cs : List Value} (h : kPa.K w x cs) : ∃ p, cs = [.string x.name, .bool x.absent, .pointer p] ∧ TxtAt w p x.text := by
 obtain ⟨_, _, rfl, rfl, ⟨_, _, rfl, rfl, ⟨p, rfl, h⟩⟩⟩ := h
 exact ⟨p, rfl, h⟩
structure KPr where
 name : ByteArray
 absent : Bool
 has : Bool
 hasEnd : Bool
 st : Int
 en : Int
 text : KT
 params : List KPa
def kPr : Kd KPr := Kd.iso (Kd.pair Kd.string (Kd.pair Kd.bool (Kd.pair Kd.bool (Kd.pair Kd.bool (Kd.pair (Kd.int .i64) (Kd.pair (Kd.int .i64) (Kd.pair kTxt (Kd.slice 158 kPa)))))))) (fun x => (x.name, x.absent, x.has, x.hasEnd, x.st, x.en, x.text, x.params))
theorem kPr_open {w : World} {x : KPr} {cs : List Value} (h : kPr.K w x cs) : ∃ p A c, cs = [.string x.name, .bool x.absent, .bool x.has, .bool x.hasEnd, .int .i64 x.st, .int .i64 x.en, .pointer p, .slice A x.params.length c] ∧ TxtAt w p x.text ∧ x.params.length ≤ c ∧ kPa.C w A x.params.length x.params := by
 obtain ⟨_, _, rfl, rfl, ⟨_, _, rfl, rfl, ⟨_, _, rfl, rfl, ⟨_, _, rfl, rfl, ⟨_, _, rfl, rfl, ⟨_, _, rfl, rfl, ⟨_, _, rfl, ⟨p, rfl, hp⟩, ⟨A, c, rfl, hl, hr⟩⟩⟩⟩⟩⟩⟩⟩ := h
 exact ⟨p, A, c, rfl, hp, hl, hr⟩
structure KCo where
 name : ByteArray
 absent : Bool
 has : Bool
 hasEnd : Bool
 st : Int
 en : Int
 props : List KPr
 comps : List KCo
def FKCo (d : Kd KCo) : Kd KCo := Kd.iso (Kd.pair Kd.string (Kd.pair Kd.bool (Kd.pair Kd.bool (Kd.pair Kd.bool (Kd.pair (Kd.int .i64) (Kd.pair (Kd.int .i64) (Kd.pair (Kd.slice 147 kPr) (Kd.slice 42 d)))))))) (fun x => (x.name, x.absent, x.has, x.hasEnd, x.st, x.en, x.props, x.comps))
theorem subKCo : Kd.Sub FKCo [42, 147, 158] := Kd.sub_iso _ (Kd.sub_pair (Kd.sub_const _ (by decide)) (Kd.sub_pair (Kd.sub_const _ (by decide)) (Kd.sub_pair (Kd.sub_const _ (by decide)) (Kd.sub_pair (Kd.sub_const _ (by decide)) (Kd.sub_pair (Kd.sub_const _ (by decide)) (Kd.sub_pair (Kd.sub_const _ (by decide)) (Kd.sub_pair (Kd.sub_const _ (by decide)) (Kd.sub_slice 42 (by decide) Kd.sub_id))))))))
theorem szKCo : ∀ n, (Kd.upto FKCo 8 [42, 147, 158] n).sz = 8 := Kd.upto_sz (fun _ => rfl)
def kCo : Kd KCo := Kd.fix FKCo 8 [42, 147, 158] szKCo (Kd.upto_E subKCo)
theorem kCo_open {w : World} {x : KCo} {cs : List Value} (h : kCo.K w x cs) : ∃ A c A2 c2, cs = [.string x.name, .bool x.absent, .bool x.has, .bool x.hasEnd, .int .i64 x.st, .int .i64 x.en, .slice A x.props.length c, .slice A2 x.comps.length c2] ∧
  x.props.length ≤ c ∧ kPr.C w A x.props.length x.props ∧ x.comps.length ≤ c2 ∧ kCo.C w A2 x.comps.length x.comps := by
 obtain ⟨n, h⟩ := h
 cases n with
 | zero => exact h.elim
 | succ n =>
  obtain ⟨_, _, rfl, rfl, ⟨_, _, rfl, rfl, ⟨_, _, rfl, rfl, ⟨_, _, rfl, rfl, ⟨_, _, rfl, rfl, ⟨_, _, rfl, rfl, ⟨_, _, rfl, ⟨A, c, rfl, hl, hr⟩, ⟨A2, c2, rfl, hl2, hr2⟩⟩⟩⟩⟩⟩⟩⟩ := h
  exact ⟨A, c, A2, c2, rfl, hl, hr, hl2, Kd.fix_C hr2⟩
theorem atN {α : Type} {d : Kd α} {w : World} {A : Option Addr} {n : Nat} {xs : List α} (h : d.C w A n xs) (k : Nat) (x : α) (hx : xs[k]? = some x) :
  ∃ ad c, A = some ad ∧ d.K w x c ∧ ∀ j u, c[j]? = some u → w.cell? (ad.add (k * d.sz + j)) = some u := by
 obtain ⟨hl, _⟩ := List.getElem?_eq_some_iff.1 hx
 obtain ⟨ad, e, hc⟩ := h.2.2 (by have := h.1; omega)
 obtain ⟨c, _, hK, hcell⟩ := hc k x hx
 exact ⟨ad, c, e, hK, hcell⟩
abbrev fa (ad : Addr) (k j : Nat) : Addr := ⟨(ad.add k).block, (ad.add k).off + j, none⟩
theorem at_kPa {w : World} {A : Option Addr} {n : Nat} {xs : List KPa} (h : kPa.C w A n xs) (k : Nat) (x : KPa) (hx : xs[k]? = some x) :
  ∃ ad p, A = some ad ∧ TxtAt w p x.text ∧ w.cell? (ad.add (k * 3)) = some (.string x.name) ∧ w.cell? (fa ad (k * 3) 1) = some (.bool x.absent) ∧ w.cell? (fa ad (k * 3) 2) = some (.pointer p) := by
 obtain ⟨ad, c, e, hK, hc0⟩ := atN h k x hx
 have hc : ∀ j u, c[j]? = some u → w.cell? (ad.add (k * 3 + j)) = some u := hc0
 obtain ⟨p, rfl, hp⟩ := kPa_open hK
 exact ⟨ad, p, e, hp, hc 0 _ rfl, by unfold fa; rw [← add_field _ _ 1 (by omega)]; exact hc 1 _ rfl, by unfold fa; rw [← add_field _ _ 2 (by omega)]; exact hc 2 _ rfl⟩
theorem at_kPr {w : World} {A : Option Addr} {n : Nat} {xs : List KPr} (h : kPr.C w A n xs) (k : Nat) (x : KPr) (hx : xs[k]? = some x) :
  ∃ ad p B c, A = some ad ∧ TxtAt w p x.text ∧ x.params.length ≤ c ∧ kPa.C w B x.params.length x.params ∧ w.cell? (ad.add (k * 8)) = some (.string x.name) ∧ w.cell? (fa ad (k * 8) 1) = some (.bool x.absent) ∧ w.cell? (fa ad (k * 8) 2) = some (.bool x.has) ∧
   w.cell? (fa ad (k * 8) 3) = some (.bool x.hasEnd) ∧ w.cell? (fa ad (k * 8) 4) = some (.int .i64 x.st) ∧ w.cell? (fa ad (k * 8) 5) = some (.int .i64 x.en) ∧ w.cell? (fa ad (k * 8) 6) = some (.pointer p) ∧ w.cell? (fa ad (k * 8) 7) = some (.slice B x.params.length c) := by
 obtain ⟨ad, cc, e, hK, hc0⟩ := atN h k x hx
 have hc : ∀ j u, cc[j]? = some u → w.cell? (ad.add (k * 8 + j)) = some u := hc0
 obtain ⟨p, B, c, rfl, hp, hl, hr⟩ := kPr_open hK
 have hd : ∀ j u, 0 < j → [Value.string x.name, .bool x.absent, .bool x.has, .bool x.hasEnd, .int .i64 x.st, .int .i64 x.en, .pointer p, .slice B x.params.length c][j]? = some u → w.cell? (fa ad (k * 8) j) = some u := fun j u h0 hu => by
  unfold fa; rw [← add_field _ _ j h0]; exact hc j u hu
 exact ⟨ad, p, B, c, e, hp, hl, hr, hc 0 _ rfl, hd 1 _ (by omega) rfl, hd 2 _ (by omega) rfl, hd 3 _ (by omega) rfl, hd 4 _ (by omega) rfl, hd 5 _ (by omega) rfl, hd 6 _ (by omega) rfl, hd 7 _ (by omega) rfl⟩
theorem at_kCo {w : World} {A : Option Addr} {n : Nat} {xs : List KCo} (h : kCo.C w A n xs) (k : Nat) (x : KCo) (hx : xs[k]? = some x) :
  ∃ ad B c B2 c2, A = some ad ∧ x.props.length ≤ c ∧ kPr.C w B x.props.length x.props ∧ x.comps.length ≤ c2 ∧ kCo.C w B2 x.comps.length x.comps ∧ w.cell? (ad.add (k * 8)) = some (.string x.name) ∧ w.cell? (fa ad (k * 8) 1) = some (.bool x.absent) ∧ w.cell? (fa ad (k * 8) 2) = some (.bool x.has) ∧
   w.cell? (fa ad (k * 8) 3) = some (.bool x.hasEnd) ∧ w.cell? (fa ad (k * 8) 4) = some (.int .i64 x.st) ∧ w.cell? (fa ad (k * 8) 5) = some (.int .i64 x.en) ∧ w.cell? (fa ad (k * 8) 6) = some (.slice B x.props.length c) ∧ w.cell? (fa ad (k * 8) 7) = some (.slice B2 x.comps.length c2) := by
 obtain ⟨ad, cc, e, hK, hc0⟩ := atN h k x hx
 have hc : ∀ j u, cc[j]? = some u → w.cell? (ad.add (k * 8 + j)) = some u := hc0
 obtain ⟨B, c, B2, c2, rfl, hl, hr, hl2, hr2⟩ := kCo_open hK
 have hd : ∀ j u, 0 < j → [Value.string x.name, .bool x.absent, .bool x.has, .bool x.hasEnd, .int .i64 x.st, .int .i64 x.en, .slice B x.props.length c, .slice B2 x.comps.length c2][j]? = some u → w.cell? (fa ad (k * 8) j) = some u := fun j u h0 hu => by
  unfold fa; rw [← add_field _ _ j h0]; exact hc j u hu
 exact ⟨ad, B, c, B2, c2, e, hl, hr, hl2, hr2, hc 0 _ rfl, hd 1 _ (by omega) rfl, hd 2 _ (by omega) rfl, hd 3 _ (by omega) rfl, hd 4 _ (by omega) rfl, hd 5 _ (by omega) rfl, hd 6 _ (by omega) rfl, hd 7 _ (by omega) rfl⟩
theorem at75 {w : World} {A : Option Addr} {n : Nat} {xs : List S75} (h : k75.C w A n xs) (k : Nat) (x : S75) (hx : xs[k]? = some x) :
  ∃ ad B c, A = some ad ∧ x.f1.length ≤ c ∧ k151.C w B x.f1.length x.f1 ∧ w.cell? (ad.add (k * 3)) = some (.string x.f0) ∧ w.cell? (fa ad (k * 3) 1) = some (.slice B x.f1.length c) ∧ w.cell? (fa ad (k * 3) 2) = some (.string x.f2) := by
 obtain ⟨ad, cc, e, hK, hc0⟩ := atN h k x hx
 have hc : ∀ j u, cc[j]? = some u → w.cell? (ad.add (k * 3 + j)) = some u := hc0
 obtain ⟨B, c, rfl, hl, hr⟩ := k75_open hK
 exact ⟨ad, B, c, e, hl, hr, hc 0 _ rfl, by unfold fa; rw [← add_field _ _ 1 (by omega)]; exact hc 1 _ rfl, by unfold fa; rw [← add_field _ _ 2 (by omega)]; exact hc 2 _ rfl⟩
theorem at151 {w : World} {A : Option Addr} {n : Nat} {xs : List S151} (h : k151.C w A n xs) (k : Nat) (x : S151) (hx : xs[k]? = some x) :
  ∃ ad B c, A = some ad ∧ x.f1.length ≤ c ∧ Kd.string.C w B x.f1.length x.f1 ∧ w.cell? (ad.add (k * 2)) = some (.string x.f0) ∧ w.cell? (fa ad (k * 2) 1) = some (.slice B x.f1.length c) := by
 obtain ⟨ad, cc, e, hK, hc0⟩ := atN h k x hx
 have hc : ∀ j u, cc[j]? = some u → w.cell? (ad.add (k * 2 + j)) = some u := hc0
 obtain ⟨B, c, rfl, hl, hr⟩ := k151_open hK
 exact ⟨ad, B, c, e, hl, hr, hc 0 _ rfl, by unfold fa; rw [← add_field _ _ 1 (by omega)]; exact hc 1 _ rfl⟩
theorem at36 {w : World} {A : Option Addr} {n : Nat} {xs : List S36} (h : k36.C w A n xs) (k : Nat) (x : S36) (hx : xs[k]? = some x) :
  ∃ ad B c B2 c2, A = some ad ∧ x.f1.length ≤ c ∧ k75.C w B x.f1.length x.f1 ∧ x.f2.length ≤ c2 ∧ k36.C w B2 x.f2.length x.f2 ∧ w.cell? (ad.add (k * 3)) = some (.string x.f0) ∧ w.cell? (fa ad (k * 3) 1) = some (.slice B x.f1.length c) ∧ w.cell? (fa ad (k * 3) 2) = some (.slice B2 x.f2.length c2) := by
 obtain ⟨ad, cc, e, hK, hc0⟩ := atN h k x hx
 have hc : ∀ j u, cc[j]? = some u → w.cell? (ad.add (k * 3 + j)) = some u := hc0
 obtain ⟨B, c, B2, c2, rfl, hl, hr, hl2, hr2⟩ := k36_open hK
 exact ⟨ad, B, c, B2, c2, e, hl, hr, hl2, hr2, hc 0 _ rfl, by unfold fa; rw [← add_field _ _ 1 (by omega)]; exact hc 1 _ rfl, by unfold fa; rw [← add_field _ _ 2 (by omega)]; exact hc 2 _ rfl⟩
theorem atStr {w : World} {A : Option Addr} {n : Nat} {xs : List ByteArray} (h : Kd.string.C w A n xs) (k : Nat) (x : ByteArray) (hx : xs[k]? = some x) : ∃ ad, A = some ad ∧ w.cell? (ad.add k) = some (.string x) := by
 obtain ⟨ad, cc, e, hK, hc0⟩ := atN h k x hx
 have hK' : cc = [.string x] := hK
 subst hK'
 exact ⟨ad, e, by have := hc0 0 _ rfl; simpa [Kd.string, Kd.scalar] using this⟩
def AnyB (w : World) (e : Ending) (w' : World) : Prop := ∃ b : Bool, e = .returned (.bool b) ∧ Below w.heap.size w w'
theorem below_quiet {W w2 : World} {d : Nat} {os : Array Obj} (h : w2 = grow (redrawn W d) os) : Below W.heap.size W w2 := by rw [h]; exact below_regrown _ _ _
inductive AllC (P : S36 → Prop) : S36 → Prop
 | mk (x : S36) : P x → (∀ k ∈ x.f2, AllC P k) → AllC P x
theorem AllC.here {P : S36 → Prop} {x : S36} (h : AllC P x) : P x := by cases h; assumption
theorem AllC.kid {P : S36 → Prop} {x k : S36} (h : AllC P x) (hk : k ∈ x.f2) : AllC P k := by
 cases h with
 | mk _ _ h2 => exact h2 k hk
theorem kid_lt (x k : S36) (h : k ∈ x.f2) : SizeOf.sizeOf k < SizeOf.sizeOf x := by
 have := List.sizeOf_lt_of_mem h
 cases x
 simp at this ⊢
 omega
def reachC (x : S36) : Prop := x.f0.size ≤ 140737488351232 ∧ x.f1.length ≤ 140737488351232 ∧ ∀ p ∈ x.f1, p.f0.size ≤ 140737488351232 ∧ p.f2.size ≤ 140737488351232 ∧ ∀ q ∈ p.f1, q.f0.size ≤ 140737488351232
def okQ (q : S151) : Prop := q.f0.size ≤ 100 ∧ q.f1.length ≤ 10 ∧ ∀ s ∈ q.f1, s.size ≤ 300
def okP (p : S75) : Prop := p.f0.size ≤ 1000 ∧ p.f2.size ≤ 1000 ∧ p.f1.length ≤ 10 ∧ ∀ q ∈ p.f1, okQ q
def okC (x : S36) : Prop := x.f1.length ≤ 100 ∧ x.f2.length ≤ 100 ∧ ∀ p ∈ x.f1, okP p
def ISPost (w : World) (L : Nat) (n : Int) (x : S36) (e : Ending) (w' : World) : Prop := ∃ (b : Bool) (m : Int), e = .returned (.bool b) ∧ w'.heap[L]? = some (.cells #[.int .i64 m] 3) ∧ Only [L] w w' ∧
 (b = true → 0 ≤ m ∧ m + 1 + x.f1.length + x.f2.length ≤ n ∧ AllC okC x)
theorem isize (N : Nat) : ∀ (x : S36) (_ : SizeOf.sizeOf x ≤ N) (_ : AllC reachC x) (A B : Option Addr) (c c2 : Nat) (d : Int) (_ : 0 ≤ d + 10) (_ : d ≤ 5) (L : Nat) (n : Int) (_ : 0 ≤ n) (_ : n ≤ 100) (w0 w : World) (_ : Below w0.heap.size w0 w) (_ : w0.heap.size ≤ L)
  (_ : w.heap[L]? = some (.cells #[.int .i64 n] 3)) (_ : k75.C w0 A x.f1.length x.f1) (_ : k36.C w0 B x.f2.length x.f2),
  Calls Tryz.prog 33 #[.agg #[.string x.f0, .slice A x.f1.length c, .slice B x.f2.length c2], .int .i64 d, .pointer (some ⟨L, 0, none⟩)] w (ISPost w L n x) := by
 induction N with
 | zero => intro x h; cases x; simp at h
 | succ N ih =>
  intro x hN hR A B c c2 d hd0 hd1 L n hn0 hn1 w0 w hb0 hL0 hL hp hkk
  have hlL := lt_blk hL
  have hre := hR.here.2.1
  have hrp := hI hR.here.2.2
  have hz0 := hb0.size
  have hl1 := hp.2.1
  have hl2 := hkk.2.1
  go_enter Tryz.func33, Tryz.ntmps33
  go_wp2_with fail
  have q0 := (cell_blk (old_blk hL (.cells #[.string x.f0, .slice A x.f1.length c, .slice B x.f2.length c2] 36)) 0).trans rfl
  have q1 := (cell_blk (new_blk w (.cells #[.string x.f0, .slice A x.f1.length c, .slice B x.f2.length c2] 36)) 1).trans rfl
  have q2 := frozen_blk (old_blk hL (.cells #[.string x.f0, .slice A x.f1.length c, .slice B x.f2.length c2] 36)) 0 (by omega)
  refine start_ (n := 10) (S := fun W => W.cell? ⟨L, 0, none⟩ = some (.int .i64 n) ∧ W.cell? ⟨w.heap.size, 1, none⟩ = some (.slice A x.f1.length c)) (ds := [9]) (bM 10 0) (by kernel_rfl) rfl (by kernel_rfl) ⟨q0, q1⟩ (fun hHeld => ?_)
  refine pU 0 10 1 (some 15) rfl rfl (by kernel_rfl) rfl (fun _ => by go_simp; with_reducible rfl) (by simp only [sW]; rfl) ?_
  refine pU 1 10 3 (some 16) rfl rfl (by kernel_rfl) rfl (fun _ => by go_simp; with_reducible rfl) (by simp only [sW]; rfl) ?_
  refine tA 2 10 7 (some 17) rfl rfl (by kernel_rfl) rfl (fun _ ⟨s0, s1⟩ => by go_simp; with_reducible rfl) hHeld (by simp only [sW]; rfl) ?_
  refine pU 3 10 15 (some 18) rfl rfl (by kernel_rfl) rfl (fun _ => by go_simp; with_reducible rfl) (by simp only [sW]; rfl) ?_
  refine tA 4 10 31 (some 19) rfl rfl (by kernel_rfl) rfl (fun _ ⟨s0, s1⟩ => by go_simp; with_reducible rfl) hHeld (by simp only [sW]; rfl) ?_
  refine pU 5 10 63 (some 20) rfl rfl (by kernel_rfl) rfl (fun _ => by go_simp; with_reducible rfl) (by simp only [sW]; rfl) ?_
  refine pU 6 10 127 (some 21) rfl rfl (by kernel_rfl) rfl (fun _ => by go_simp; with_reducible rfl) (by simp only [sW]; rfl) ?_
  refine pU 7 10 255 (some 22) rfl rfl (by kernel_rfl) rfl (fun _ => by go_simp; with_reducible rfl) (by simp only [sW]; rfl) ?_
  refine pU 8 10 511 (some 23) rfl rfl (by kernel_rfl) rfl (fun _ => by go_simp; with_reducible rfl) (by simp only [sW]; rfl) ?_
  refine lA 9 10 1023 none rfl rfl (by kernel_rfl) (by decide) (fun K hK => ?_)
  refine skip_ (w1 := ?_) (by rfl) rfl ?_ ?_; rotate_left; (go_simp; first | rfl | done)
  refine hK.out _ _ ?_
  clear hK K
  refine done_ (by kernel_rfl) ?_
  have hw1 : wrap64 (n - wrap64 (1 + (x.f1.length : Int))) = n - 1 - x.f1.length := by unfold wrap64; omega
  rw [hw1]
  have hL2 := old_blk (set_blk hL 0 (.int .i64 (n - 1 - x.f1.length))) (.cells #[.string x.f0, .slice A x.f1.length c, .slice B x.f2.length c2] 36)
  have hX2 := new_blk (w.setCell ⟨L, 0, none⟩ (.int .i64 (n - 1 - x.f1.length))) (.cells #[.string x.f0, .slice A x.f1.length c, .slice B x.f2.length c2] 36)
  have hO2 : Only [L] w ((w.setCell ⟨L, 0, none⟩ (.int .i64 (n - 1 - x.f1.length))).alloc (.cells #[.string x.f0, .slice A x.f1.length c, .slice B x.f2.length c2] 36)).drew := (((Only.refl [L] w).setCell (by simp) _).alloc _).drew
  have hs2 : (w.setCell ⟨L, 0, none⟩ (.int .i64 (n - 1 - x.f1.length))).heap.size = w.heap.size := by simp [World.setCell]
  rw [hs2] at hX2
  have hL2 := (show ((w.setCell ⟨L, 0, none⟩ (.int .i64 (n - 1 - x.f1.length))).alloc (.cells #[.string x.f0, .slice A x.f1.length c, .slice B x.f2.length c2] 36)).drew.heap[L]? = _ from hL2)
  have hX2 := (show ((w.setCell ⟨L, 0, none⟩ (.int .i64 (n - 1 - x.f1.length))).alloc (.cells #[.string x.f0, .slice A x.f1.length c, .slice B x.f2.length c2] 36)).drew.heap[w.heap.size]? = _ from hX2)
  generalize hw2 : World.drew _ = w2 at hL2 hX2 hO2 ⊢
  generalize hm0 : n - 1 - (x.f1.length : Int) = m0 at hL2 ⊢
  have hb2 : Below w0.heap.size w0 w2 := hb0.trans (hO2.below hz0 (by intro y hy; simp at hy; omega))
  have c0 : w2.cell? ⟨L, 0, none⟩ = some (.int .i64 m0) := (cell_blk hL2 0).trans rfl
  have c1 : w2.cell? ⟨w.heap.size, 1, none⟩ = some (.slice A x.f1.length c) := (cell_blk hX2 1).trans rfl
  have HO := hI hO2
  have HL := hI hL2
  have HX := hI hX2
  have HB := hI hb2
  have HM := hI hm0
  clear hw1 hs2 hw2 hO2 hL2 hX2 hb2 q0 q1 q2 hHeld hm0 hL
  have hret : ∀ wr, Below w2.heap.size w2 wr → ISPost w L n x (.returned (.bool false)) wr := fun wr hb => ⟨false, m0, rfl, below_blk hb HL.out, HO.out.trans (Only.of_below hb), by simp⟩
  have HR := hI hret
  clear hret
  go_wp2_with fail
  ·go_ret
   exact HR.out _ (Below.refl _ _)
  rotate_left
  ·go_ret
   exact HR.out _ (Below.refl _ _)
  go_loopw [35] (fun i wr => ∃ k : Nat, k ≤ x.f1.length ∧ i = .int .i64 k ∧ Below w2.heap.size w2 wr ∧ Hid (∀ p ∈ x.f1.take k, okP p)) (fun i _ => x.f1.length - (RowKit.intOf i).toNat)
  case atStart => exact ⟨0, Nat.zero_le _, rfl, Below.refl _ _, hI (by simp)⟩
  case round =>
   obtain ⟨k, hk, rfl, hB, hP⟩ := hrel
   obtain ⟨wo, rfl⟩ : ∃ wo : World, wo = wr := ⟨_, rfl⟩
   have hW := HB.out.trans (hB.mono HB.out.size)
   by_cases hlt : k < x.f1.length
   ·obtain ⟨p, hpe⟩ : ∃ p, x.f1[k]? = some p := ⟨_, List.getElem?_eq_getElem hlt⟩
    obtain ⟨ad, Q, cq, rfl, hlq, hrq, g0, g1, g2⟩ := at75 (Kd.C_below hp hW) k p hpe
    have hpe := hI hpe
    have hlq2 := hrq.2.1
    have hre2 := hrp.out p (List.mem_of_getElem? hpe.out)
    have hr1 := hre2.1
    have hr2 := hre2.2.1
    clear hre2
    by_cases h1 : p.f0.size + p.f2.size ≤ 1000
    ·have h1b : decide ((1000 : Int) < (p.f0.size : Int) + (p.f2.size : Int)) = false := decide_eq_false (by omega)
     by_cases h2 : p.f1.length ≤ 10
     ·have h2b : decide ((10 : Int) < (p.f1.length : Int)) = false := decide_eq_false (by omega)
      go_wp2_with fail
      go_loopw [56] (fun i wr => ∃ j : Nat, j ≤ p.f1.length ∧ i = .int .i64 j ∧ Below wo.heap.size wo wr ∧ Hid (∀ q ∈ p.f1.take j, okQ q)) (fun i _ => p.f1.length - (RowKit.intOf i).toNat)
      case atStart => exact ⟨0, Nat.zero_le _, rfl, below_alloc (Below.refl _ _) _, hI (by simp)⟩
      case round =>
       clear g0 g1 g2
       obtain ⟨j, hj, rfl, hBq, hQ⟩ := hrel
       obtain ⟨wq, rfl⟩ : ∃ wq : World, wq = wr := ⟨_, rfl⟩
       have hBW := hB.trans (hBq.mono hB.size)
       by_cases hjt : j < p.f1.length
       ·obtain ⟨q, hqe⟩ : ∃ q, p.f1[j]? = some q := ⟨_, List.getElem?_eq_getElem hjt⟩
        obtain ⟨ad2, V, cv, rfl, hlv, hrv, g0, g1⟩ := at151 (Kd.C_below hrq hBq) j q hqe
        have hqe := hI hqe
        have hlv2 := hrv.2.1
        by_cases h3 : q.f0.size ≤ 100
        ·have h3b : decide ((100 : Int) < (q.f0.size : Int)) = false := decide_eq_false (by omega)
         by_cases h4 : q.f1.length ≤ 10
         ·have h4b : decide ((10 : Int) < (q.f1.length : Int)) = false := decide_eq_false (by omega)
          go_wp2_with fail
          go_loopw [73] (fun i wr => ∃ l : Nat, l ≤ q.f1.length ∧ i = .int .i64 l ∧ Below wq.heap.size wq wr ∧ Hid (∀ s ∈ q.f1.take l, s.size ≤ 300)) (fun i _ => q.f1.length - (RowKit.intOf i).toNat)
          case atStart => exact ⟨0, Nat.zero_le _, rfl, below_alloc (Below.refl _ _) _, hI (by simp)⟩
          case round =>
           clear g0 g1
           obtain ⟨l, hl, rfl, hBs, hS⟩ := hrel
           by_cases hlt2 : l < q.f1.length
           ·obtain ⟨t, hte⟩ : ∃ t, q.f1[l]? = some t := ⟨_, List.getElem?_eq_getElem hlt2⟩
            obtain ⟨ad3, rfl, g3⟩ := atStr (Kd.C_below hrv hBs) l t hte
            have hte := hI hte
            by_cases h5 : t.size ≤ 300
            ·have h5b : decide ((300 : Int) < (t.size : Int)) = false := decide_eq_false (by omega)
             go_wp2
             go_roundw
             case rel => exact ⟨l + 1, by omega, by go_num, hBs, hI (by rw [List.take_add_one, hte.out]; intro s hs; rcases List.mem_append.1 hs with hs | hs; exact hS.out s hs; simp at hs; subst hs; exact h5)⟩
             case measure => simp [RowKit.intOf]; omega
            ·have h5b : decide ((300 : Int) < (t.size : Int)) = true := decide_eq_true (by omega)
             go_wp2
             go_ret
             exact HR.out _ (hBW.trans (hBs.mono hBW.size))
           ·obtain rfl : l = q.f1.length := by omega
            have hq : okQ q := ⟨h3, h4, by have := hS.out; rwa [List.take_length] at this⟩
            have hq := hI hq
            go_wp2
            go_roundw
            case rel => exact ⟨j + 1, by omega, by go_num, hBq.trans (hBs.mono hBq.size), hI (by rw [List.take_add_one, hqe.out]; intro s hs; rcases List.mem_append.1 hs with hs | hs; exact hQ.out s hs; simp at hs; subst hs; exact hq.out)⟩
            case measure => simp [RowKit.intOf]; omega
         ·have h4b : decide ((10 : Int) < (q.f1.length : Int)) = true := decide_eq_true (by omega)
          go_wp2
          go_ret
          exact HR.out _ (below_alloc hBW _)
        ·have h3b : decide ((100 : Int) < (q.f0.size : Int)) = true := decide_eq_true (by omega)
         go_wp2
         go_ret
         exact HR.out _ (below_alloc hBW _)
       ·obtain rfl : j = p.f1.length := by omega
        have hpk : okP p := ⟨by omega, by omega, h2, by have := hQ.out; rwa [List.take_length] at this⟩
        have hpk := hI hpk
        go_wp2
        go_roundw
        case rel => exact ⟨k + 1, by omega, by go_num, hBW, hI (by rw [List.take_add_one, hpe.out]; intro s hs; rcases List.mem_append.1 hs with hs | hs; exact hP.out s hs; simp at hs; subst hs; exact hpk.out)⟩
        case measure => simp [RowKit.intOf]; omega
     ·have h2b : decide ((10 : Int) < (p.f1.length : Int)) = true := decide_eq_true (by omega)
      go_wp2
      go_ret
      exact HR.out _ (below_alloc hB _)
    ·have h1b : decide ((1000 : Int) < (p.f0.size : Int) + (p.f2.size : Int)) = true := decide_eq_true (by omega)
     go_wp2
     go_ret
     exact HR.out _ (below_alloc hB _)
   ·obtain rfl : k = x.f1.length := by omega
    have hP2 : Hid (∀ p ∈ x.f1, okP p) := hI (by have := hP.out; rwa [List.take_length] at this)
    have cB : wo.cell? ⟨w.heap.size, 2, none⟩ = some (.slice B x.f2.length c2) := (cell_blk (below_blk hB HX.out) 2).trans rfl
    have hL3 := below_blk hB HL.out
    have hO3 := HO.out.trans (Only.of_below hB)
    have HL3 := hI hL3
    have HO3 := hI hO3
    clear hL3 hO3 hP hW
    go_wp2_with fail
    go_loopw [86] (fun i wr => ∃ (j : Nat) (m : Int), j ≤ x.f2.length ∧ i = .int .i64 j ∧ Hid (wr.heap[L]? = some (.cells #[.int .i64 m] 3)) ∧ Hid (Only [L] w wr) ∧ 0 ≤ m ∧ Hid (m + 1 + x.f1.length + j ≤ n) ∧ Hid (∀ y ∈ x.f2.take j, AllC okC y)) (fun i _ => x.f2.length - (RowKit.intOf i).toNat)
    case atStart => exact ⟨0, m0, Nat.zero_le _, rfl, HL3, HO3, by omega, hI (by have := HM.out; simp; omega), hI (by simp)⟩
    case round =>
     clear cB
     obtain ⟨j, m, hj, rfl, hLj, hOj, hmj, hnj, hAj⟩ := hrel
     have hWj : Below w0.heap.size w0 wr := hb0.trans (hOj.out.below hz0 (by intro y hy; simp at hy; omega))
     by_cases hjt : j < x.f2.length
     ·obtain ⟨y, hye⟩ : ∃ y, x.f2[j]? = some y := ⟨_, List.getElem?_eq_getElem hjt⟩
      have hym := List.mem_of_getElem? hye
      obtain ⟨ad, V, cv, V2, cv2, rfl, hlv, hrv, hlv2, hrv2, g0, g1, g2⟩ := at36 hkk j y hye
      have g0 := pw_cell_below hWj g0
      have g1 := pw_cell_below hWj g1
      have g2 := pw_cell_below hWj g2
      have hye := hI hye
      have hm100 : m ≤ 100 := by have := hnj.out; omega
      go_wp2_with fail
      refine (ih y (by have := kid_lt x y hym; omega) (hR.kid hym) V V2 cv cv2 (d - 1) (by omega) (by omega) L m hmj hm100 w0 _ (below_alloc hWj _) hL0 (old_blk hLj.out _) hrv hrv2).mono ?_
      rintro e w5 ⟨b, m2, rfl, hL5, hO5, hb5⟩
      have hO6 := hOj.out.trans (((Only.refl [L] wr).alloc _).trans hO5)
      have hO6 := hI hO6
      have hL5 := hI hL5
      have hb5 := hI hb5
      clear g0 g1 g2 hO5 hOj hLj
      cases b
      ·go_wp2
       go_ret
       exact ⟨false, m2, rfl, hL5.out, hO6.out, by simp⟩
      ·obtain ⟨e1, e2, e3⟩ := hb5.out rfl
       have e3 := hI e3
       have hnn : m2 + 1 + (x.f1.length : Int) + ((j + 1 : Nat) : Int) ≤ n := by have := hnj.out; omega
       have hnn := hI hnn
       go_wp2
       go_roundw
       case rel => exact ⟨j + 1, m2, by omega, by go_num, hL5, hO6, e1, hnn, hI (by rw [List.take_add_one, hye.out]; intro s hs; rcases List.mem_append.1 hs with hs | hs; exact hAj.out s hs; simp at hs; subst hs; exact e3.out)⟩
       case measure => simp [RowKit.intOf]; omega
     ·obtain rfl : j = x.f2.length := by omega
      have hfin : ISPost w L n x (.returned (.bool true)) wr := by
       refine ⟨true, m, rfl, hLj.out, hOj.out, fun _ => ⟨hmj, hnj.out, .mk x ⟨by have := hnj.out; omega, by have := hnj.out; omega, hP2.out⟩ ?_⟩⟩
       have := hAj.out
       rwa [List.take_length] at this
      have hfin := hI hfin
      clear hLj hOj hnj hAj
      go_wp2
      go_ret
      exact hfin.out
def letterB (c : Int) : Bool := decide (97 ≤ c ∧ c ≤ 122) || decide (65 ≤ c ∧ c ≤ 90) || decide (48 ≤ c ∧ c ≤ 57) || c == 45
theorem iletter_is (c : Int) (w : World) (h0 : 0 ≤ c) (h1 : c ≤ 255) : Calls Tryz.prog 102 #[.int .u8 c] w fun e w' => e = .returned (.bool (letterB c)) ∧ w = w' := by
 by_cases a1 : 97 ≤ c <;> by_cases a2 : c ≤ 122 <;> by_cases a3 : 65 ≤ c <;> by_cases a4 : c ≤ 90 <;> by_cases a5 : 48 ≤ c <;> by_cases a6 : c ≤ 57
 all_goals (first | omega | (
  have hl : letterB c = (decide (97 ≤ c ∧ c ≤ 122) || decide (65 ≤ c ∧ c ≤ 90) || decide (48 ≤ c ∧ c ≤ 57) || c == 45) := rfl
  simp only [a1, a2, a3, a4, a5, a6, and_true, and_false, true_and, false_and, decide_true, decide_false, Bool.or_true, Bool.true_or, Bool.or_false, Bool.false_or] at hl
  go_enter Tryz.func102, Tryz.ntmps102
  go_wp2
  all_goals (go_ret; exact ⟨rfl, rfl⟩)))
def lettersF : Nat → ByteArray → Nat → Bool
 | 0, _, _ => true
 | n + 1, s, k => if h : k < s.size then (if letterB ((s[k]).toNat : Int) then lettersF n s (k + 1) else false) else true
def nameB (s : ByteArray) : Bool := lettersF (s.size + 1) s 0 && !s.toList.isEmpty
theorem lettersF_at (n : Nat) (s : ByteArray) (k : Nat) (h : k < s.size) : lettersF (n + 1) s k = if letterB ((s[k]).toNat : Int) then lettersF n s (k + 1) else false := by
 show (if h : k < s.size then _ else _) = _
 rw [dif_pos h]
theorem lettersF_end (n : Nat) (s : ByteArray) (k : Nat) (h : ¬ k < s.size) : lettersF n s k = true := by
 cases n with
 | zero => rfl
 | succ n => show (if h : k < s.size then _ else _) = _; rw [dif_neg h]
theorem iname_is (s : ByteArray) (w : World) (hm : s.size ≤ 140737488351232) : Calls Tryz.prog 64 #[.string s] w fun e w' => e = .returned (.bool (nameB s)) ∧ Below w.heap.size w w' := by
 go_enter Tryz.func64, Tryz.ntmps64
 go_wp2
 go_loopw [3] (fun i wr => ∃ k n : Nat, k ≤ s.size ∧ i = .int .i64 k ∧ Below w.heap.size w wr ∧ s.size - k < n ∧ Hid (lettersF (s.size + 1) s 0 = lettersF n s k)) (fun i _ => s.size - (RowKit.intOf i).toNat)
 case atStart => exact ⟨0, s.size + 1, Nat.zero_le _, rfl, Below.refl _ _, by omega, hI rfl⟩
 case round =>
  obtain ⟨k, n, hk, rfl, hB, hn, hF⟩ := hrel
  by_cases hlt : k < s.size
  ·have hb := (s[k]).toNat_lt
   obtain ⟨n, rfl⟩ : ∃ m, n = m + 1 := ⟨n - 1, by omega⟩
   have hF2 : Hid (lettersF (s.size + 1) s 0 = if letterB ((s[k]).toNat : Int) then lettersF n s (k + 1) else false) := hI (hF.out.trans (lettersF_at n s k hlt))
   clear hF
   go_wp2_with fail
   refine (iletter_is _ wr (by omega) (by omega)).mono ?_
   rintro e w1 ⟨rfl, rfl⟩
   cases hl : letterB ((s[k]).toNat : Int)
   ·have hF3 : Hid (nameB s = false) := hI (by unfold nameB; rw [hF2.out, hl]; rfl)
    clear hF2 hl
    go_wp2
    go_ret
    exact ⟨ret_bool hF3.out.symm, hB⟩
   ·have hF3 : Hid (lettersF (s.size + 1) s 0 = lettersF n s (k + 1)) := hI (by rw [hF2.out, hl]; rfl)
    clear hF2 hl
    go_wp2
    go_roundw
    case rel => exact ⟨k + 1, n, by omega, by go_num, hB, by omega, hF3⟩
    case measure => simp [RowKit.intOf]; omega
  ·have hF3 : Hid (nameB s = !s.toList.isEmpty) := hI (by unfold nameB; rw [hF.out, lettersF_end n s k hlt]; rfl)
   clear hF
   go_wp2
   go_ret
   exact ⟨ret_bool hF3.out.symm, hB⟩
theorem decode_pos (s : ByteArray) (pos : Nat) (h : pos < s.size) : 1 ≤ (Utf8.decode s pos).2 := by
 by_cases ha : 128 ≤ (s[pos]'h).toNat
 ·exact (decode_high s pos h ha).2
 ·rw [decode_ascii s pos h (by omega)]; exact Nat.le_refl _
def badB (s : ByteArray) (k : Nat) (r : Int) : Bool :=
 (r == 65533 && (decide (s.size ≤ k + 2) || (s.extract k (k + 3)).toList != [239, 191, 189])) || (decide (r < 32) && r != 9) || r == 127
def plainF : Nat → ByteArray → Nat → Bool
 | 0, _, _ => true
 | n + 1, s, k => if k < s.size then (if badB s k ((Utf8.decode s k).1 : Int) then false else plainF n s (k + (Utf8.decode s k).2)) else true
def plainB (s : ByteArray) : Bool := plainF (s.size + 1) s 0
theorem plainF_at (n : Nat) (s : ByteArray) (k : Nat) (h : k < s.size) : plainF (n + 1) s k = if badB s k ((Utf8.decode s k).1 : Int) then false else plainF n s (k + (Utf8.decode s k).2) := by
 show (if k < s.size then _ else _) = _
 rw [if_pos h]
theorem plainF_end (n : Nat) (s : ByteArray) (k : Nat) (h : ¬ k < s.size) : plainF n s k = true := by
 cases n with
 | zero => rfl
 | succ n => show (if k < s.size then _ else _) = _; rw [if_neg h]
theorem iplain_is (s : ByteArray) (w : World) (hm : s.size ≤ 140737488351232) : Calls Tryz.prog 66 #[.string s] w fun e w' => e = .returned (.bool (plainB s)) ∧ Below w.heap.size w w' := by
 go_enter Tryz.func66, Tryz.ntmps66
 go_wp2_with fail
 go_loopg [] s.size (fun g wr => ∃ k n : Nat, g = s.size - k ∧ wr = w.iter s k ∧ s.size - k < n ∧ Hid (plainB s = plainF n s k))
 case atStart => exact ⟨0, s.size + 1, rfl, rfl, by omega, hI rfl⟩
 case round =>
  obtain ⟨k, n, rfl, rfl, hn, hF⟩ := hrel
  by_cases hlt : k < s.size
  ·obtain ⟨n, rfl⟩ : ∃ m, n = m + 1 := ⟨n - 1, by omega⟩
   have hF2 : Hid (plainB s = if badB s k ((Utf8.decode s k).1 : Int) then false else plainF n s (k + (Utf8.decode s k).2)) := hI (hF.out.trans (plainF_at n s k hlt))
   have hp := decode_pos s k hlt
   have hnx := fun ty => run_next_any (P := Tryz.prog) w s k ty hlt
   clear hF
   generalize hr : ((Utf8.decode s k).1 : Int) = r at hnx hF2
   generalize hq : k + (Utf8.decode s k).2 = q at hnx hF2
   have hkn : k + 1 ≤ q := by omega
   clear hp hr hq
   have hB : Below w.heap.size w (w.iter s q) := (Below.refl _ _).alloc (Nat.le_refl _) _
   have hB := hI hB
   have hk63 : k + 3 ≤ 9223372036854775807 := by omega
   by_cases a1 : r = 65533
   ·subst a1
    by_cases a2 : s.size ≤ k + 2
    ·have hF3 : Hid (plainB s = false) := hI (by rw [hF2.out, if_pos (by simp [badB, a2])])
     clear hF2
     go_wp2
     go_ret
     exact ⟨ret_bool hF3.out.symm, hB.out⟩
    ·have a2b : decide ((s.size : Int) ≤ (k : Int) + 2) = false := decide_eq_false (by omega)
     cases a3 : ((s.extract k (k + 3)).toList == [239, 191, 189])
     ·have hF3 : Hid (plainB s = false) := hI (by rw [hF2.out, if_pos (by simp only [badB, bne, a3]; simp)])
      clear hF2
      go_wp2
      go_ret
      exact ⟨ret_bool hF3.out.symm, hB.out⟩
     ·have hF3 : Hid (plainB s = plainF n s q) := hI (by rw [hF2.out, if_neg (by simp only [badB, bne, a3]; simp [a2])])
      clear hF2
      go_wp2
      go_roundg (s.size - q)
      case measure => omega
      case rel => exact ⟨q, n, rfl, rfl, by omega, hF3⟩
   ·by_cases a3 : r < 32 <;> by_cases a4 : r = 9 <;> by_cases a5 : r = 127
    all_goals (first | omega | skip)
    ·subst a4
     have hF3 : Hid (plainB s = plainF n s q) := hI (by rw [hF2.out, if_neg (by simp [badB])])
     clear hF2
     go_wp2
     go_roundg (s.size - q)
     case measure => omega
     case rel => exact ⟨q, n, rfl, rfl, by omega, hF3⟩
    ·have hF3 : Hid (plainB s = false) := hI (by rw [hF2.out, if_pos (by simp [badB, a3, a4])])
     clear hF2
     go_wp2
     go_ret
     exact ⟨ret_bool hF3.out.symm, hB.out⟩
    ·have hF3 : Hid (plainB s = false) := hI (by rw [hF2.out, if_pos (by simp [badB, a5])])
     clear hF2
     go_wp2
     go_ret
     exact ⟨ret_bool hF3.out.symm, hB.out⟩
    ·have hF3 : Hid (plainB s = plainF n s q) := hI (by rw [hF2.out, if_neg (by simp [badB, a1, a3, a5])])
     clear hF2
     go_wp2
     go_roundg (s.size - q)
     case measure => omega
     case rel => exact ⟨q, n, rfl, rfl, by omega, hF3⟩
  ·have hF3 : Hid (plainB s = true) := hI (by rw [hF.out, plainF_end n s k hlt])
   have hnx := fun ty => run_next_end (P := Tryz.prog) w s k ty hlt
   clear hF
   go_wp2
   go_ret
   exact ⟨ret_bool hF3.out.symm, (Below.refl _ _).alloc (Nat.le_refl _) _⟩
end Go.Proofs.YtcllaplddebilaaGreatDoor
end
section
namespace Go.Proofs.YtcllaplddebilaaGreatDoor
open Go.RowKit Go.Sort
attribute [local go_sem] cell?_grow frozen?_grow cell?_redrawn frozen?_redrawn size_redrawn size_grow ba_get ba_extract
attribute [local simp] size_redrawn
open Go.Lib
def upB (c : UInt8) : UInt8 := if 97 ≤ c.toNat ∧ c.toNat ≤ 122 then c - 32 else c
def upper (s : ByteArray) : ByteArray := ⟨s.data.map upB⟩
theorem upB_val (c : UInt8) (h1 : 97 ≤ c.toNat) (h2 : c.toNat ≤ 122) : ((c - 32).toNat : Int) = (c.toNat : Int) - 32 := by
 have h : (32 : UInt8).toNat = 32 := rfl
 rw [UInt8.toNat_sub, h]
 omega
def UpRow (s : ByteArray) (k : Nat) (N : Nat) (w : World) : Prop := ∃ C : Array Value, w.heap[N]? = some (.cells C 5 (C.size, C.size + 1)) ∧ s.size ≤ C.size ∧
 ∀ j (h : j < s.size), C[j]? = some (.int .u8 (((if j < k then upB s[j] else s[j]).toNat : Nat) : Int))
theorem UpRow.start (s : ByteArray) (w : World) (cap : Nat) (N : Nat) (h : w.heap[N]? = some (.cells (bytesRow s cap) 5 ((bytesRow s cap).size, (bytesRow s cap).size + 1))) : UpRow s 0 N w := by
 refine ⟨_, h, ?_, ?_⟩
 ·have h1 : s.data.size = s.size := rfl
  simp only [bytesRow, Array.size_append, Array.size_map, h1]; omega
 ·intro j hj
  have hj' : j < s.data.size := hj
  simp only [bytesRow]
  rw [Array.getElem?_append_left (by simpa using hj'), Array.getElem?_map, Array.getElem?_eq_getElem hj', if_neg (by omega)]
  rfl
theorem UpRow.step {s : ByteArray} {k N : Nat} {w : World} (h : UpRow s k N w) (hk : k < s.size) (v : Int) (hv : v = ((upB s[k]).toNat : Int)) : UpRow s (k + 1) N (w.setCell ⟨N, k, none⟩ (.int .u8 v)) := by
 obtain ⟨C, hC, hs, hj⟩ := h
 refine ⟨C.setIfInBounds k (.int .u8 v), by simpa using set_blk hC k _, by simpa using hs, ?_⟩
 intro j hjs
 by_cases e : j = k
 ·subst e
  rw [Array.getElem?_setIfInBounds_self_of_lt (by omega)]
  simp [hv]
 ·rw [Array.getElem?_setIfInBounds_ne (by omega), hj j hjs]
  have : (j < k + 1) = (j < k) := by apply propext; omega
  simp only [this]
theorem UpRow.pass {s : ByteArray} {k N : Nat} {w : World} (h : UpRow s k N w) (hk : k < s.size) (hv : upB s[k] = s[k]) : UpRow s (k + 1) N w := by
 obtain ⟨C, hC, hs, hj⟩ := h
 refine ⟨C, hC, hs, ?_⟩
 intro j hjs
 rw [hj j hjs]
 by_cases e : j = k
 ·subst e; simp [hv]
 ·have : (j < k + 1) = (j < k) := by apply propext; omega
  simp only [this]
theorem UpRow.cell {s : ByteArray} {k N : Nat} {w : World} (h : UpRow s k N w) (hk : k < s.size) : w.cell? ⟨N, k, none⟩ = some (.int .u8 ((s[k].toNat : Nat) : Int)) ∧ w.frozen? ⟨N, k, none⟩ = false := by
 obtain ⟨C, hC, hs, hj⟩ := h
 refine ⟨?_, frozen_blk hC k (by omega)⟩
 rw [cell_blk hC, hj k hk]; simp
theorem upper_len (s : ByteArray) : (upper s).data.toList.length = s.size := by
 show (s.data.map upB).toList.length = s.data.size
 simp
theorem UpRow.all {s : ByteArray} {N : Nat} {w : World} (h : UpRow s s.size N w) (j : Nat) (hj' : j < (upper s).data.toList.length) : w.cell? ((⟨N, 0, none⟩ : Addr).add j) = some (.int .u8 (((upper s).data.toList[j]).toNat : Int)) := by
 obtain ⟨C, hC, hs, hj⟩ := h
 have hjs : j < s.size := by have h1 : (upper s).data.toList.length = s.size := upper_len s; omega
 have e : (⟨N, 0, none⟩ : Addr).add j = ⟨N, j, none⟩ := by unfold Addr.add; split <;> simp_all
 rw [e, cell_blk hC, hj j hjs, if_pos hjs]
 simp [upper]
 rfl
theorem upper_ical (s : ByteArray) (w : World) (hm : s.size ≤ 4294967296) :
  Calls Tryz.prog 116 #[.string s] w fun e w' => e = .returned (.string (upper s)) ∧ Below w.heap.size w w' := by
 have hcv := fun (w : World) => run_bytes_of_string (P := Tryz.prog) w 9 213 5 s Tryz.underlying9 Tryz.underlying213 Tryz.underlying5
 go_enter Tryz.func116, Tryz.ntmps116
 go_wp2_with fail
 go_loopg [10] s.size (fun g iv wr => ∃ k : Nat, k ≤ s.size ∧ g = s.size - k ∧ iv = .int .i64 k ∧ UpRow s k w.heap.size wr ∧ Below w.heap.size w wr)
 case atStart => exact ⟨0, by omega, by omega, rfl, UpRow.start s _ _ _ (new_blk w _), ((Below.refl _ _).alloc (Nat.le_refl _) _).drew⟩
 case round =>
  obtain ⟨k, hk, rfl, rfl, hrow, hbel⟩ := hrel
  by_cases hks : k < s.size
  ·obtain ⟨hc, hf⟩ := hrow.cell hks
   by_cases hu : 97 ≤ s[k].toNat ∧ s[k].toNat ≤ 122
   ·obtain ⟨u1, u2⟩ := hu
    have u1' : (97 : Int) ≤ (s[k].toNat : Int) := by omega
    have u2' : (s[k].toNat : Int) ≤ 122 := by omega
    have hst := hrow.step hks ((s[k].toNat : Int) - 32) (by unfold upB; rw [if_pos ⟨u1, u2⟩]; exact (upB_val _ u1 u2).symm)
    go_wp2
    go_roundg (s.size - (k + 1))
    case measure => omega
    case rel => exact ⟨k + 1, by omega, rfl, by go_num, hst, hbel.setCell (Nat.le_refl _) _⟩
   ·have hps := hrow.pass hks (by unfold upB; rw [if_neg hu])
    by_cases h97 : 97 ≤ s[k].toNat
    ·have u1' : (97 : Int) ≤ (s[k].toNat : Int) := by omega
     have u2' : ¬ (s[k].toNat : Int) ≤ 122 := by omega
     go_wp2
     go_roundg (s.size - (k + 1))
     case measure => omega
     case rel => exact ⟨k + 1, by omega, rfl, by go_num, hps, hbel⟩
    ·have u1' : ¬ (97 : Int) ≤ (s[k].toNat : Int) := by omega
     go_wp2
     go_roundg (s.size - (k + 1))
     case measure => omega
     case rel => exact ⟨k + 1, by omega, rfl, by go_num, hps, hbel⟩
  ·obtain rfl : k = s.size := by omega
   have hback := run_convert_bytes_back (P := Tryz.prog) wr 213 9 5 ⟨w.heap.size, 0, none⟩ (grownCap w s.size 0 5) (upper s).data.toList Tryz.underlying213 Tryz.underlying5 Tryz.underlying9 (fun j hj => hrow.all j hj)
   have hl : (upper s).data.toList.length = s.size := upper_len s
   rw [hl] at hback
   go_wp2
   go_ret
   exact ⟨rfl, hbel⟩
theorem upper_spec (s : ByteArray) (w : World) (hm : s.size ≤ 140737488351232) :
  Calls Tryz.prog 65 #[.string s] w fun e w' => e = .returned (.string (upper s)) ∧ Below w.heap.size w w' := by
 have hcv := fun (w : World) => run_bytes_of_string (P := Tryz.prog) w 9 213 5 s Tryz.underlying9 Tryz.underlying213 Tryz.underlying5
 go_enter Tryz.func65, Tryz.ntmps65
 go_wp2_with fail
 go_loopg [10] s.size (fun g iv wr => ∃ k : Nat, k ≤ s.size ∧ g = s.size - k ∧ iv = .int .i64 k ∧ UpRow s k w.heap.size wr ∧ Below w.heap.size w wr)
 case atStart => exact ⟨0, by omega, by omega, rfl, UpRow.start s _ _ _ (new_blk w _), ((Below.refl _ _).alloc (Nat.le_refl _) _).drew⟩
 case round =>
  obtain ⟨k, hk, rfl, rfl, hrow, hbel⟩ := hrel
  by_cases hks : k < s.size
  ·obtain ⟨hc, hf⟩ := hrow.cell hks
   by_cases hu : 97 ≤ s[k].toNat ∧ s[k].toNat ≤ 122
   ·obtain ⟨u1, u2⟩ := hu
    have u1' : (97 : Int) ≤ (s[k].toNat : Int) := by omega
    have u2' : (s[k].toNat : Int) ≤ 122 := by omega
    have hst := hrow.step hks ((s[k].toNat : Int) - 32) (by unfold upB; rw [if_pos ⟨u1, u2⟩]; exact (upB_val _ u1 u2).symm)
    go_wp2
    go_roundg (s.size - (k + 1))
    case measure => omega
    case rel => exact ⟨k + 1, by omega, rfl, by go_num, hst, hbel.setCell (Nat.le_refl _) _⟩
   ·have hps := hrow.pass hks (by unfold upB; rw [if_neg hu])
    by_cases h97 : 97 ≤ s[k].toNat
    ·have u1' : (97 : Int) ≤ (s[k].toNat : Int) := by omega
     have u2' : ¬ (s[k].toNat : Int) ≤ 122 := by omega
     go_wp2
     go_roundg (s.size - (k + 1))
     case measure => omega
     case rel => exact ⟨k + 1, by omega, rfl, by go_num, hps, hbel⟩
    ·have u1' : ¬ (97 : Int) ≤ (s[k].toNat : Int) := by omega
     go_wp2
     go_roundg (s.size - (k + 1))
     case measure => omega
     case rel => exact ⟨k + 1, by omega, rfl, by go_num, hps, hbel⟩
  ·obtain rfl : k = s.size := by omega
   have hback := run_convert_bytes_back (P := Tryz.prog) wr 213 9 5 ⟨w.heap.size, 0, none⟩ (grownCap w s.size 0 5) (upper s).data.toList Tryz.underlying213 Tryz.underlying5 Tryz.underlying9 (fun j hj => hrow.all j hj)
   have hl : (upper s).data.toList.length = s.size := upper_len s
   rw [hl] at hback
   go_wp2
   go_ret
   exact ⟨rfl, hbel⟩
end Go.Proofs.YtcllaplddebilaaGreatDoor
end

/- laws.FnKMatch: a part of the proof: LastT. -/
import Derived.Test.YtcllaplddebilaaGreatDoorK16
set_option maxRecDepth 1000000
set_option maxHeartbeats 64000000
set_option linter.unusedVariables false
set_option linter.unusedSimpArgs false
namespace Go.Proofs.YtcllaplddebilaaGreatDoor
open Go.RowKit Go.Sort
attribute [local go_sem] cell?_grow frozen?_grow cell?_redrawn frozen?_redrawn size_redrawn size_grow ba_get ba_extract
attribute [local simp] size_redrawn
open Go.Lib Go.Proofs.YtcllaplddebilaaGreatDoorW.PrintWords Go.Proofs.YtcllaplddebilaaGreatDoorW.PrintLast Go.Proofs.YtcllaplddebilaaGreatDoorW.PrintMore PFnKMatch
theorem inum_dl (s : ByteArray) (hs : s.size ≤ 8) (hd : digs s.toList) (h0 : 0 < s.size) : ∀ (d i : Nat) (acc : Int), i + d = s.size → 0 ≤ acc → acc < 10 ^ i → ∀ k, d < k → spec_inumber.l0 k s acc (i : Int) = some (dec (s.toList.drop i) acc, true) := by
 intro d
 induction d with
 | zero =>
  intro i acc hi ha hb k hk
  obtain ⟨k, rfl⟩ : ∃ m, k = m + 1 := ⟨k - 1, by omega⟩
  show (if (i : Int) < (s.size : Int) then _ else _) = _
  rw [if_neg (by omega), List.drop_eq_nil_of_le (by rw [tl_len]; omega)]
  have : s.toList ≠ [] := by
   intro e
   have := congrArg List.length e
   rw [tl_len] at this
   have h9 : s.size = 0 := this
   omega
  simp [dec, this]
 | succ d ih =>
  intro i acc hi ha hb k hk
  obtain ⟨k, rfl⟩ : ∃ m, k = m + 1 := ⟨k - 1, by omega⟩
  obtain ⟨c, hc, hbt⟩ := bt_list s i (by omega)
  have hdrop : s.toList.drop i = c :: s.toList.drop (i + 1) := by
   obtain ⟨hl, he⟩ := List.getElem?_eq_some_iff.1 hc
   rw [List.drop_eq_getElem_cons hl, he]
  have hcd := hd c (List.mem_of_getElem? hc)
  have hacc : acc < 100000000 := by
   have : (10 : Int) ^ i ≤ 10 ^ 8 := by
    have := Nat.pow_le_pow_right (show 0 < 10 by decide) (show i ≤ 8 by omega)
    exact_mod_cast this
   have h9 : (10 : Int) ^ 8 = 100000000 := by decide
   rw [h9] at this
   exact Int.lt_of_lt_of_le hb this
  have e1 : wrap64 (wrap64 (10 * acc) + ((c.toNat : Int) - 48) % 256) = 10 * acc + ((c.toNat : Int) - 48) := by unfold wrap64; omega
  have e2 : wrap64 ((i : Int) + 1) = ((i + 1 : Nat) : Int) := by unfold wrap64; omega
  have hp : (10 : Int) ^ (i + 1) = 10 ^ i * 10 := Int.pow_succ ..
  show (if (i : Int) < (s.size : Int) then _ else _) = _
  rw [if_pos (by omega), if_pos (by omega), hbt, if_neg (by omega), if_neg (by omega), e1, e2, ih (i + 1) _ (by omega) (by omega) (by rw [hp]; omega) k (by omega), hdrop]
  rfl
theorem inum_digs (s : ByteArray) (hs : s.size ≤ 8) (hd : digs s.toList) (h0 : 0 < s.size) : spec_inumber.f 20 s = some (dec s.toList 0, true) := by
 have := inum_dl s hs hd h0 s.size 0 0 (by omega) (by omega) (by simp) 20 (by omega)
 show spec_inumber.l0 20 s 0 0 = _
 simpa using this
theorem restT_eq (t : ByteArray) (k : Nat) (h : k < t.size) : restT t k = t.extract (k + 1) t.size := by
 unfold restT
 rw [ByteArray.extract_extract]
 congr 1
 rw [ex_size]
 omega
theorem ext_get (t : ByteArray) (k i : Nat) (h : i < (t.extract k t.size).size) (h2 : k + i < t.size) : (t.extract k t.size)[i]'h = t[k + i]'h2 := by
 rw [ByteArray.getElem_extract]
def lowB (t : ByteArray) : Prop := ∀ i (h : i < t.size), (t[i]'h).toNat ≤ 90
theorem lowB_seg {t : ByteArray} {k u : Nat} {n wt : Int} {tm : Bool} (h : SegT t k u n) (hw : Wt tm u wt) (hr : lowB (restT t k)) : lowB t := by
 intro i hi
 rcases Nat.lt_trichotomy i k with hlt | he | hlt
 ·have := h.each i hi hlt
  unfold dgt at this
  omega
 ·subst he
  rw [h.unit]
  rcases hw with ⟨_, ⟨rfl, _⟩ | ⟨rfl, _⟩⟩ | ⟨_, ⟨rfl, _⟩ | ⟨rfl, _⟩ | ⟨rfl, _⟩⟩ <;> omega
 ·have e := restT_eq t k h.lt
  have h1 : i - (k + 1) < (t.extract (k + 1) t.size).size := by rw [ex_size]; omega
  have h2 := hr (i - (k + 1)) (by rw [e]; exact h1)
  have h3 : (restT t k)[i - (k + 1)]'(by rw [e]; exact h1) = t[i]'hi := by
   have h4 := ext_get t (k + 1) (i - (k + 1)) h1 (by omega)
   have h5 : k + 1 + (i - (k + 1)) = i := by omega
   simp only [h5] at h4
   rw [← h4]
   congr 1
  rw [h3] at h2
  exact h2
theorem DurT.low {tm : Bool} {t : ByteArray} {n : Int} (h : DurT tm t n) : lowB t := by
 induction h with
 | done tm t h0 => intro i hi; omega
 | date t k u n wt s a b c ih => exact lowB_seg a b ih
 | time t k u n wt s a b c ih => exact lowB_seg a b ih
 | first t t2 h k u n wt s a e b c d ih =>
  have h2 := lowB_seg b c ih
  subst e
  intro i hi
  by_cases h0 : i = 0
  ·subst h0; omega
  ·have h1 : i - 1 < (t.extract 1 t.size).size := by rw [ex_size]; omega
   have h3 := h2 (i - 1) h1
   have h4 := ext_get t 1 (i - 1) h1 (by omega)
   have h5 : 1 + (i - 1) = i := by omega
   simp only [h5] at h4
   rw [h4] at h3
   exact h3
theorem upper_low {t : ByteArray} (h : lowB t) : upper t = t := by
 obtain ⟨a⟩ := t
 unfold upper
 congr 1
 apply Array.ext
 ·simp
 ·intro i h1 h2
  rw [Array.getElem_map]
  have h3 : (({ data := a } : ByteArray).data[i]'h2).toNat ≤ 90 := h i h2
  unfold upB
  split
  ·omega
  ·rfl
theorem lastP_of {s : ByteArray} {n : Int} (h0 : 0 < s.size) (hP : (s[0]'h0).toNat = 80) (hs : s.size ≤ 1000) (hT : DurT false (s.extract 1 s.size) n) (hn : n ≤ 9000000000) : LastP s n := by
 refine ⟨⟨h0, hP⟩, by omega, upper_low (fun i hi => ?_), hT, hn⟩
 by_cases h : i = 0
 ·subst h; omega
 ·have h1 : i - 1 < (s.extract 1 s.size).size := by rw [ex_size]; omega
  have h3 := hT.low (i - 1) h1
  have h4 := ext_get s 1 (i - 1) h1 (by omega)
  have h5 : 1 + (i - 1) = i := by omega
  simp only [h5] at h4
  rw [h4] at h3
  exact h3
structure LInv (al t : ByteArray) (at_ sum : Int) (tm : Bool) : Prop where
 s0 : 0 ≤ sum
 s1 : sum ≤ (at_ + 1) * 604800000
 a1 : at_ ≤ 5
 f : tm = false → -1 ≤ at_ ∧ at_ ≤ 1
 g : tm = true → 2 ≤ at_
 rel : (∀ s', DurT tm t s' → DurT false al (sum + s')) ∨ (tm = true ∧ 0 < t.size ∧ ∀ k u n wt s', SegT t k u n → Wt true u wt → DurT true (restT t k) s' → DurT false al (sum + (n * wt + s')))
theorem LInv.start (al : ByteArray) : LInv al al (-1) 0 false := ⟨by omega, by omega, by omega, (fun _ => by omega), (fun h => by cases h), .inl (fun s' h => by rwa [Int.zero_add])⟩
theorem LInv.isT {al t : ByteArray} {at_ sum : Int} (h : LInv al t at_ sum false) (h0 : 0 < t.size) (hT : (t[0]'h0).toNat = 84) (h1 : ¬ t.size = 1) : LInv al (t.extract 1 t.size) 2 sum true := by
 have hf := h.f rfl
 refine ⟨h.s0, by have := h.s1; omega, by omega, (fun e => by cases e), (fun _ => by omega), .inr ⟨rfl, by rw [ex_size]; omega, fun k u n wt s' a b c => ?_⟩⟩
 rcases h.rel with hr | ⟨e, _⟩
 ·exact hr _ (DurT.first t _ h0 k u n wt s' hT rfl a b c)
 ·cases e
theorem LInv.seg {al t : ByteArray} {at_ sum : Int} {tm : Bool} {k u : Nat} {n wt ix : Int} (h : LInv al t at_ sum tm) (hs : SegT t k u n) (hw : Wt tm u wt) (hi : at_ < ix) (hi2 : ix ≤ 5) (hwt : wt ≤ 604800) (h3 : tm = false → ix ≤ 1) : LInv al (t.extract (k + 1) t.size) ix (sum + n * wt) tm := by
 have hb := hs.bd hw
 have hsm := hs.small
 have hn0 := hs.nonneg
 have hwt0 : 0 ≤ wt := by rcases hw with ⟨_, ⟨_, rfl⟩ | ⟨_, rfl⟩⟩ | ⟨_, ⟨_, rfl⟩ | ⟨_, rfl⟩ | ⟨_, rfl⟩⟩ <;> omega
 have hle : n * wt ≤ 604800000 := by
  have h1 := Int.mul_le_mul hsm hwt hwt0 (by omega)
  omega
 have hs0 := h.s0
 have hs1 := h.s1
 refine ⟨by omega, by omega, hi2, fun e => ?_, fun e => ?_, .inl fun s' hd => ?_⟩
 ·have := h.f e; have := h3 e; omega
 ·have := h.g e; omega
 ·rw [← restT_eq t k hs.lt] at hd
  rcases h.rel with hr | ⟨e, _, hr⟩
  ·have : DurT tm t (n * wt + s') := by
    cases tm
    ·exact DurT.date t k u n wt s' hs hw hd
    ·exact DurT.time t k u n wt s' hs hw hd
   have := hr _ this
   rwa [← Int.add_assoc] at this
  ·subst e
   have := hr k u n wt s' hs hw hd
   rwa [← Int.add_assoc] at this
theorem LInv.fin {al t : ByteArray} {at_ sum : Int} {tm : Bool} (h : LInv al t at_ sum tm) (h0 : t.size = 0) : DurT false al sum ∧ sum ≤ 9000000000 := by
 have h1 := h.s1
 have h2 := h.a1
 refine ⟨?_, by omega⟩
 rcases h.rel with hr | ⟨_, h3, _⟩
 ·have := hr 0 (DurT.done tm t h0)
  simpa using this
 ·omega
def ordI (u : Nat) : Nat := if u = 87 then 0 else if u = 68 then 1 else if u = 84 then 2 else if u = 72 then 3 else if u = 77 then 4 else if u = 83 then 5 else 6
theorem digs_of (u : ByteArray) (j : Nat) (hj : j ≤ u.size) (h : ∀ i (h : i < u.size), i < j → dgt (u[i]'h)) : digs (u.extract 0 j).toList := by
 intro c hc
 rw [Lib.toList_data] at hc
 obtain ⟨i, hi, he⟩ := List.getElem_of_mem hc
 have hsz : (u.extract 0 j).size = j := by rw [ByteArray.size_extract]; omega
 have hi' : i < (u.extract 0 j).size := by rw [Array.length_toList] at hi; exact hi
 have h1 : (u.extract 0 j)[i]'hi' = u[i]'(by omega) := by rw [ByteArray.getElem_extract]; simp
 have h2 : (u.extract 0 j).data.toList[i]'hi = (u.extract 0 j)[i]'hi' := by rw [Array.getElem_toList]; rfl
 rw [← he, h2, h1]
 have := h i (by omega) (by omega)
 unfold dgt at this
 omega
end Go.Proofs.YtcllaplddebilaaGreatDoor

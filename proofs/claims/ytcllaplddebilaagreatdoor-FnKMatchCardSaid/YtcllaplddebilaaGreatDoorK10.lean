/- laws.FnKMatch: a part of the proof: PlainMom, PlainMom2. -/
import Derived.Lib.Bytes
import Derived.Test.YtcllaplddebilaaGreatDoorK06
import Derived.Test.YtcllaplddebilaaGreatDoorK09
set_option maxRecDepth 1000000
set_option maxHeartbeats 64000000
set_option linter.unusedVariables false
set_option linter.unusedSimpArgs false
namespace Go.Proofs.YtcllaplddebilaaGreatDoor
open Go.RowKit Go.Sort
attribute [local go_sem] cell?_grow frozen?_grow cell?_redrawn frozen?_redrawn size_redrawn size_grow ba_get ba_extract
attribute [local simp] size_redrawn
open PFnKMatch Go.Lib Go.Proofs.YtcllaplddebilaaGreatDoorW.PrintWords Go.Proofs.YtcllaplddebilaaGreatDoorW.PrintLast Go.Proofs.YtcllaplddebilaaGreatDoorW.PrintMore
def dec (l : List UInt8) (a : Int) : Int := l.foldl (fun a c => 10 * a + ((c.toNat : Int) - 48)) a
def digs (l : List UInt8) : Prop := ∀ c ∈ l, 48 ≤ c.toNat ∧ c.toNat ≤ 57
theorem bt_list (s : ByteArray) (i : Nat) (h : i < s.size) : ∃ c, s.toList[i]? = some c ∧ bt s (i : Int) = (c.toNat : Int) := by
 refine ⟨s[i], ?_, ?_⟩
 ·rw [Lib.toList_data]; simp [h]; rfl
 ·unfold bt
  rw [dif_pos (by simpa using h)]
  simp
theorem tl_len (s : ByteArray) : s.toList.length = s.size := by rw [Lib.toList_data]; simp
theorem inum_l0 (s : ByteArray) (hs : s.size ≤ 8) : ∀ (d i : Nat) (acc : Int), i + d = s.size → 0 ≤ acc → acc < 10 ^ i →
  ∃ r : Int × Bool, (∀ k, d < k → spec_inumber.l0 k s acc (i : Int) = some r) ∧ (r.2 = true → digs (s.toList.drop i) ∧ 0 < s.size ∧ r.1 = dec (s.toList.drop i) acc) := by
 intro d
 induction d with
 | zero =>
  intro i acc hi h0 h1
  refine ⟨(acc, s.toList != []), fun k hk => ?_, fun hr => ?_⟩
  ·obtain ⟨k, rfl⟩ : ∃ m, k = m + 1 := ⟨k - 1, by omega⟩
   show (if (i : Int) < (s.size : Int) then _ else _) = _
   rw [if_neg (by omega)]
  ·have hd : s.toList.drop i = [] := List.drop_eq_nil_of_le (by rw [tl_len]; omega)
   rw [hd]
   refine ⟨by intro c hc; simp at hc, ?_, rfl⟩
   have hr' : (s.toList != []) = true := hr
   rw [bne_iff_ne] at hr'
   have := List.length_pos_iff.2 hr'
   rwa [tl_len] at this
 | succ d ih =>
  intro i acc hi h0 h1
  obtain ⟨c, hc, hb⟩ := bt_list s i (by omega)
  have hdrop : s.toList.drop i = c :: s.toList.drop (i + 1) := by
   obtain ⟨hl, he⟩ := List.getElem?_eq_some_iff.1 hc
   rw [List.drop_eq_getElem_cons hl, he]
  have hstep : ∀ k, spec_inumber.l0 (k + 1) s acc (i : Int) = if (c.toNat : Int) < 48 then some (0, false) else if (c.toNat : Int) > 57 then some (0, false) else spec_inumber.l0 k s (wrap64 (wrap64 (10 * acc) + ((c.toNat : Int) - 48) % 256)) (wrap64 ((i : Int) + 1)) := by
   intro k
   show (if (i : Int) < (s.size : Int) then _ else _) = _
   rw [if_pos (by omega), if_pos (by omega), hb]
  by_cases a : (c.toNat : Int) < 48
  ·refine ⟨(0, false), fun k hk => ?_, fun hr => by cases hr⟩
   obtain ⟨k, rfl⟩ : ∃ m, k = m + 1 := ⟨k - 1, by omega⟩
   rw [hstep, if_pos a]
  ·by_cases b : (c.toNat : Int) > 57
   ·refine ⟨(0, false), fun k hk => ?_, fun hr => by cases hr⟩
    obtain ⟨k, rfl⟩ : ∃ m, k = m + 1 := ⟨k - 1, by omega⟩
    rw [hstep, if_neg a, if_pos b]
   ·have hacc : acc < 100000000 := by
     have : (10 : Int) ^ i ≤ 10 ^ 8 := by
      have := Nat.pow_le_pow_right (show 0 < 10 by decide) (show i ≤ 8 by omega)
      exact_mod_cast this
     omega
    have e1 : wrap64 (wrap64 (10 * acc) + ((c.toNat : Int) - 48) % 256) = 10 * acc + ((c.toNat : Int) - 48) := by unfold wrap64; omega
    have e2 : wrap64 ((i : Int) + 1) = ((i + 1 : Nat) : Int) := by unfold wrap64; omega
    have hp : (10 : Int) ^ (i + 1) = 10 ^ i * 10 := Int.pow_succ ..
    obtain ⟨r, hr1, hr2⟩ := ih (i + 1) (10 * acc + ((c.toNat : Int) - 48)) (by omega) (by omega) (by rw [hp]; omega)
    refine ⟨r, fun k hk => ?_, fun hr => ?_⟩
    ·obtain ⟨k, rfl⟩ : ∃ m, k = m + 1 := ⟨k - 1, by omega⟩
     rw [hstep, if_neg a, if_neg b, e1, e2]
     exact hr1 k (by omega)
    ·obtain ⟨q1, q2, q3⟩ := hr2 hr
     rw [hdrop]
     refine ⟨?_, q2, q3⟩
     intro x hx
     rcases List.mem_cons.1 hx with rfl | hx
     ·omega
     ·exact q1 x hx
theorem inum_spec (s : ByteArray) (hs : s.size ≤ 8) : ∃ r : Int × Bool, (∀ k, s.size < k → spec_inumber.f k s = some r) ∧ (r.2 = true → digs s.toList ∧ 0 < s.size ∧ r.1 = dec s.toList 0) := by
 obtain ⟨r, h1, h2⟩ := inum_l0 s hs s.size 0 0 (by omega) (by omega) (by simp)
 exact ⟨r, h1, by simpa using h2⟩
theorem eight (v : ByteArray) (h : v.size = 8) : ∃ a b c d e f g i : UInt8, v = { data := #[a, b, c, d, e, f, g, i] } := by
 obtain ⟨⟨l⟩⟩ := v
 match l, h with
 | [a, b, c, d, e, f, g, i], _ => exact ⟨a, b, c, d, e, f, g, i, rfl⟩
theorem ilen_f (y m : Int) (hy : 0 ≤ y) (h1 : 1 ≤ m) (h2 : m ≤ 12) (k : Nat) (hk : 0 < k) : spec_ILength.f k y m = some (mlen y m) := by
 obtain ⟨k, rfl⟩ : ∃ j, k = j + 1 := ⟨k - 1, by omega⟩
 have t4 : Int.tmod y 4 = y % 4 := Int.tmod_eq_emod_of_nonneg hy
 have t100 : Int.tmod y 100 = y % 100 := Int.tmod_eq_emod_of_nonneg hy
 have t400 : Int.tmod y 400 = y % 400 := Int.tmod_eq_emod_of_nonneg hy
 have : m = 1 ∨ m = 2 ∨ m = 3 ∨ m = 4 ∨ m = 5 ∨ m = 6 ∨ m = 7 ∨ m = 8 ∨ m = 9 ∨ m = 10 ∨ m = 11 ∨ m = 12 := by omega
 rcases this with h | h | h | h | h | h | h | h | h | h | h | h <;> subst h <;> simp [spec_ILength.f, spec_ILength.j0, mlen, lpI, lpY, t4, t100, t400]
 by_cases a : y % 4 = 0 <;> by_cases b : y % 100 = 0 <;> by_cases c : y % 400 = 0 <;> simp [a, b, c]
theorem idays_f (y m d : Int) (hy : 1 ≤ y) (hy2 : y ≤ 9999) (h1 : 1 ≤ m) (h2 : m ≤ 12) (h3 : 1 ≤ d) (h4 : d ≤ 31) : spec_IDays.f y m d = some (dnum y m d) := by
 rw [← idays_eq y m d h1 h2]
 have w64 : ∀ x : Int, -9223372036854775808 ≤ x → x ≤ 9223372036854775807 → wrap64 x = x := fun x a b => by unfold wrap64; omega
 unfold spec_IDays.f idays
 by_cases hm : m ≤ 2
 ·rw [if_pos hm]
  simp only [if_pos hm]
  rw [w64 (y - 1) (by omega) (by omega), if_neg (by omega)]
  have e1 : Int.tdiv (y - 1) 400 = (y - 1) / 400 := Int.tdiv_eq_ediv_of_nonneg (by omega)
  rw [e1]
  have q1 : 0 ≤ (y - 1) / 400 := by omega
  have q2 : (y - 1) / 400 ≤ 24 := by omega
  have q3 : 400 * ((y - 1) / 400) ≤ y - 1 := by omega
  have q4 : y - 1 < 400 * ((y - 1) / 400) + 400 := by omega
  generalize (y - 1) / 400 = q at *
  rw [w64 q (by omega) (by omega), w64 (400 * q) (by omega) (by omega), w64 (y - 1 - 400 * q) (by omega) (by omega)]
  have e2 : Int.tdiv (y - 1 - 400 * q) 4 = (y - 1 - 400 * q) / 4 := Int.tdiv_eq_ediv_of_nonneg (by omega)
  have e3 : Int.tdiv (y - 1 - 400 * q) 100 = (y - 1 - 400 * q) / 100 := Int.tdiv_eq_ediv_of_nonneg (by omega)
  rw [w64 (m + 12) (by omega) (by omega), w64 (m + 12 - 3) (by omega) (by omega), w64 (153 * (m + 12 - 3)) (by omega) (by omega), w64 (153 * (m + 12 - 3) + 2) (by omega) (by omega)]
  have e4 : Int.tdiv (153 * (m + 12 - 3) + 2) 5 = (153 * (m + 12 - 3) + 2) / 5 := Int.tdiv_eq_ediv_of_nonneg (by omega)
  rw [e2, e3, e4]
  congr 1
  have c1 : 0 ≤ (153 * (m + 12 - 3) + 2) / 5 := by omega
  have c2 : (153 * (m + 12 - 3) + 2) / 5 ≤ 400 := by omega
  generalize hY : y - 1 - 400 * q = Y at *
  generalize m + 12 - 3 = M at *
  have a1 : 0 ≤ Y / 4 := by omega
  have a2 : Y / 4 ≤ 100 := by omega
  have b1 : 0 ≤ Y / 100 := by omega
  have b2 : Y / 100 ≤ 4 := by omega
  generalize Y / 4 = A at *
  generalize Y / 100 = B at *
  generalize (153 * M + 2) / 5 = C at *
  rw [w64 (q * 146097) (by omega) (by omega), w64 (Y * 365) (by omega) (by omega), w64 (q * 146097 + Y * 365) (by omega) (by omega), w64 A (by omega) (by omega), w64 (q * 146097 + Y * 365 + A) (by omega) (by omega), w64 B (by omega) (by omega), w64 (q * 146097 + Y * 365 + A - B) (by omega) (by omega), w64 C (by omega) (by omega), w64 (C + d) (by omega) (by omega), w64 (C + d - 1) (by omega) (by omega), w64 (q * 146097 + Y * 365 + A - B + (C + d - 1)) (by omega) (by omega), w64 _ (by omega) (by omega)]
 ·rw [if_neg hm]
  simp only [if_neg hm]
  rw [if_neg (by omega)]
  have e1 : Int.tdiv y 400 = y / 400 := Int.tdiv_eq_ediv_of_nonneg (by omega)
  rw [e1]
  have q1 : 0 ≤ y / 400 := by omega
  have q2 : y / 400 ≤ 24 := by omega
  have q3 : 400 * (y / 400) ≤ y := by omega
  have q4 : y < 400 * (y / 400) + 400 := by omega
  generalize y / 400 = q at *
  rw [w64 q (by omega) (by omega), w64 (400 * q) (by omega) (by omega), w64 (y - 400 * q) (by omega) (by omega)]
  have e2 : Int.tdiv (y - 400 * q) 4 = (y - 400 * q) / 4 := Int.tdiv_eq_ediv_of_nonneg (by omega)
  have e3 : Int.tdiv (y - 400 * q) 100 = (y - 400 * q) / 100 := Int.tdiv_eq_ediv_of_nonneg (by omega)
  rw [w64 (m - 3) (by omega) (by omega), w64 (153 * (m - 3)) (by omega) (by omega), w64 (153 * (m - 3) + 2) (by omega) (by omega)]
  have e4 : Int.tdiv (153 * (m - 3) + 2) 5 = (153 * (m - 3) + 2) / 5 := Int.tdiv_eq_ediv_of_nonneg (by omega)
  rw [e2, e3, e4]
  congr 1
  have c1 : 0 ≤ (153 * (m - 3) + 2) / 5 := by omega
  have c2 : (153 * (m - 3) + 2) / 5 ≤ 400 := by omega
  generalize hY : y - 400 * q = Y at *
  generalize m - 3 = M at *
  have a1 : 0 ≤ Y / 4 := by omega
  have a2 : Y / 4 ≤ 100 := by omega
  have b1 : 0 ≤ Y / 100 := by omega
  have b2 : Y / 100 ≤ 4 := by omega
  generalize Y / 4 = A at *
  generalize Y / 100 = B at *
  generalize (153 * M + 2) / 5 = C at *
  rw [w64 (q * 146097) (by omega) (by omega), w64 (Y * 365) (by omega) (by omega), w64 (q * 146097 + Y * 365) (by omega) (by omega), w64 A (by omega) (by omega), w64 (q * 146097 + Y * 365 + A) (by omega) (by omega), w64 B (by omega) (by omega), w64 (q * 146097 + Y * 365 + A - B) (by omega) (by omega), w64 C (by omega) (by omega), w64 (C + d) (by omega) (by omega), w64 (C + d - 1) (by omega) (by omega), w64 (q * 146097 + Y * 365 + A - B + (C + d - 1)) (by omega) (by omega), w64 _ (by omega) (by omega)]
def dgt (c : UInt8) : Prop := (48 : Int) ≤ (c.toNat : Int) ∧ (c.toNat : Int) ≤ (57 : Int)
def DayB (a b c d e f g h : UInt8) (y m dd : Int) : Prop :=
 (dgt a ∧ dgt b ∧ dgt c ∧ dgt d ∧ dgt e ∧ dgt f ∧ dgt g ∧ dgt h) ∧ y = ((((((a.toNat : Int) - 48) * 10 + (b.toNat : Int)) - 48) * 10 + (c.toNat : Int)) - 48) * 10 + (d.toNat : Int) - 48 ∧
 m = ((e.toNat : Int) - 48) * 10 + ((f.toNat : Int) - 48) ∧ dd = ((g.toNat : Int) - 48) * 10 + ((h.toNat : Int) - 48) ∧ valid y m dd ∧ y ≤ 9999
theorem dgt_of (l : List UInt8) (h : digs l) (c : UInt8) (hc : c ∈ l) : dgt c := by
 have := h c hc
 unfold dgt; omega
theorem dnum_bd9 (y m d : Int) (h1 : 1 ≤ y) (h2 : y ≤ 9999) (m1 : 1 ≤ m) (m2 : m ≤ 12) (d1 : 1 ≤ d) (d2 : d ≤ 31) : -800000 ≤ dnum y m d ∧ dnum y m d ≤ 3700000 := by
 have hc : 0 ≤ cum y m ∧ cum y m ≤ 335 := by
  have : m = 1 ∨ m = 2 ∨ m = 3 ∨ m = 4 ∨ m = 5 ∨ m = 6 ∨ m = 7 ∨ m = 8 ∨ m = 9 ∨ m = 10 ∨ m = 11 ∨ m = 12 := by omega
  have hl := lpI_01 y
  rcases this with h | h | h | h | h | h | h | h | h | h | h | h <;> subst h <;> simp [cum] <;> omega
 have hb : -1000 ≤ dby y ∧ dby y ≤ 3651700 := by unfold dby; omega
 unfold dnum
 omega
theorem date_spec (a b c d e f g h : UInt8) : ∃ r : Int × Bool, (∀ k, 10 < k → spec_IDate.f k { data := #[a, b, c, d, e, f, g, h] } = some r) ∧ (-800000 ≤ r.1 ∧ r.1 ≤ 3700000) ∧
  (r.2 = true → ∃ y m dd, DayB a b c d e f g h y m dd ∧ r.1 = dnum y m dd) := by
 obtain ⟨r1, A1, B1⟩ := inum_spec { data := #[a, b, c, d] } (by show 4 ≤ 8; omega)
 obtain ⟨r2, A2, B2⟩ := inum_spec { data := #[e, f] } (by show 2 ≤ 8; omega)
 obtain ⟨r3, A3, B3⟩ := inum_spec { data := #[g, h] } (by show 2 ≤ 8; omega)
 have hdef : ∀ k, 10 < k → spec_IDate.f k { data := #[a, b, c, d, e, f, g, h] } = (if r1.2 = true then (if r2.2 = true then (if r3.2 = true then (if r1.1 < 1 then (some (0, false)) else (if r2.1 < 1 then (some (0, false)) else (if r2.1 > 12 then (some (0, false)) else (if r3.1 < 1 then (some (0, false)) else ((spec_ILength.f k r1.1 r2.1).bind fun t269 => (if r3.1 > t269 then (some (0, false)) else ((spec_IDays.f r1.1 r2.1 r3.1).bind fun t270 => (some (t270, true))))))))) else (some (0, false))) else (some (0, false))) else (some (0, false))) := by
  intro k hk
  have e1 : (ByteArray.mk #[a, b, c, d, e, f, g, h]).extract 0 4 = { data := #[a, b, c, d] } := rfl
  have e2 : (ByteArray.mk #[a, b, c, d, e, f, g, h]).extract 4 6 = { data := #[e, f] } := rfl
  have e3 : (ByteArray.mk #[a, b, c, d, e, f, g, h]).extract 6 (ByteArray.mk #[a, b, c, d, e, f, g, h]).size = { data := #[g, h] } := rfl
  unfold spec_IDate.f
  rw [e1, e2, e3, A1 k (by show 4 < k; omega), A2 k (by show 2 < k; omega), A3 k (by show 2 < k; omega)]
  rfl
 have hz : ∀ b0 : Bool, b0 = false → (-800000 ≤ ((0 : Int), b0).1 ∧ ((0 : Int), b0).1 ≤ 3700000) ∧ (((0 : Int), b0).2 = true → ∃ y m dd, DayB a b c d e f g h y m dd ∧ ((0 : Int), b0).1 = dnum y m dd) := by
  rintro _ rfl
  exact ⟨⟨by simp, by simp⟩, fun h => by cases h⟩
 by_cases g1 : r1.2 = true
 case neg => exact ⟨(0, false), fun k hk => by rw [hdef k hk, if_neg g1], hz _ rfl⟩
 by_cases g2 : r2.2 = true
 case neg => exact ⟨(0, false), fun k hk => by rw [hdef k hk, if_pos g1, if_neg g2], hz _ rfl⟩
 by_cases g3 : r3.2 = true
 case neg => exact ⟨(0, false), fun k hk => by rw [hdef k hk, if_pos g1, if_pos g2, if_neg g3], hz _ rfl⟩
 obtain ⟨D1, -, E1⟩ := B1 g1
 obtain ⟨D2, -, E2⟩ := B2 g2
 obtain ⟨D3, -, E3⟩ := B3 g3
 have l1 : (ByteArray.mk #[a, b, c, d]).toList = [a, b, c, d] := by rw [Lib.toList_data]
 have l2 : (ByteArray.mk #[e, f]).toList = [e, f] := by rw [Lib.toList_data]
 have l3 : (ByteArray.mk #[g, h]).toList = [g, h] := by rw [Lib.toList_data]
 rw [l1] at D1 E1
 rw [l2] at D2 E2
 rw [l3] at D3 E3
 have ha := dgt_of _ D1 a (by simp)
 have hb := dgt_of _ D1 b (by simp)
 have hc := dgt_of _ D1 c (by simp)
 have hd := dgt_of _ D1 d (by simp)
 have he := dgt_of _ D2 e (by simp)
 have hf := dgt_of _ D2 f (by simp)
 have hg := dgt_of _ D3 g (by simp)
 have hh := dgt_of _ D3 h (by simp)
 have q1 : r1.1 = ((((((a.toNat : Int) - 48) * 10 + (b.toNat : Int)) - 48) * 10 + (c.toNat : Int)) - 48) * 10 + (d.toNat : Int) - 48 := by
  rw [E1]; simp only [dec, List.foldl]; omega
 have q2 : r2.1 = ((e.toNat : Int) - 48) * 10 + ((f.toNat : Int) - 48) := by
  rw [E2]; simp only [dec, List.foldl]; omega
 have q3 : r3.1 = ((g.toNat : Int) - 48) * 10 + ((h.toNat : Int) - 48) := by
  rw [E3]; simp only [dec, List.foldl]; omega
 have hdg : dgt a ∧ dgt b ∧ dgt c ∧ dgt d ∧ dgt e ∧ dgt f ∧ dgt g ∧ dgt h := ⟨ha, hb, hc, hd, he, hf, hg, hh⟩
 unfold dgt at ha hb hc hd he hf hg hh
 have b1 : r1.1 ≤ 9999 := by omega
 have b3 : r3.1 ≤ 99 := by omega
 clear A1 B1 A2 B2 A3 B3 E1 E2 E3 D1 D2 D3
 by_cases c1 : r1.1 < 1
 ·exact ⟨(0, false), fun k hk => by rw [hdef k hk, if_pos g1, if_pos g2, if_pos g3, if_pos c1], hz _ rfl⟩
 by_cases c2 : r2.1 < 1
 ·exact ⟨(0, false), fun k hk => by rw [hdef k hk, if_pos g1, if_pos g2, if_pos g3, if_neg c1, if_pos c2], hz _ rfl⟩
 by_cases c3 : r2.1 > 12
 ·exact ⟨(0, false), fun k hk => by rw [hdef k hk, if_pos g1, if_pos g2, if_pos g3, if_neg c1, if_neg c2, if_pos c3], hz _ rfl⟩
 by_cases c4 : r3.1 < 1
 ·exact ⟨(0, false), fun k hk => by rw [hdef k hk, if_pos g1, if_pos g2, if_pos g3, if_neg c1, if_neg c2, if_neg c3, if_pos c4], hz _ rfl⟩
 have hl := ilen_f r1.1 r2.1 (by omega) (by omega) (by omega)
 by_cases c5 : r3.1 > mlen r1.1 r2.1
 ·exact ⟨(0, false), fun k hk => by rw [hdef k hk, if_pos g1, if_pos g2, if_pos g3, if_neg c1, if_neg c2, if_neg c3, if_neg c4, hl k (by omega), Option.bind_some, if_pos c5], hz _ rfl⟩
 have hm := mlen_bd r1.1 r2.1
 have hi := idays_f r1.1 r2.1 r3.1 (by omega) b1 (by omega) (by omega) (by omega) (by omega)
 refine ⟨(dnum r1.1 r2.1 r3.1, true), fun k hk => by rw [hdef k hk, if_pos g1, if_pos g2, if_pos g3, if_neg c1, if_neg c2, if_neg c3, if_neg c4, hl k (by omega), Option.bind_some, if_neg c5, hi, Option.bind_some], ?_, fun _ => ?_⟩
 ·show -800000 ≤ dnum r1.1 r2.1 r3.1 ∧ dnum r1.1 r2.1 r3.1 ≤ 3700000
  exact dnum_bd9 r1.1 r2.1 r3.1 (by omega) b1 (by omega) (by omega) (by omega) (by omega)
 ·exact ⟨r1.1, r2.1, r3.1, ⟨hdg, q1, q2, q3, ⟨by omega, by omega, by omega, by omega, by omega⟩, b1⟩, rfl⟩
theorem date_no (v : ByteArray) (h : v.size ≠ 8) (k : Nat) : spec_IDate.f k v = some (0, false) := by
 unfold spec_IDate.f
 rw [if_neg (by omega)]
def DatB (v : ByteArray) (sec : Int) : Prop := ∃ a b c d e f g h y m dd, v = { data := #[a, b, c, d, e, f, g, h] } ∧ DayB a b c d e f g h y m dd ∧ sec = dnum y m dd * 86400
def ClkB (h0 h1 i0 i1 s0 s1 : UInt8) (h mi sc : Int) : Prop :=
 (dgt h0 ∧ dgt h1 ∧ dgt i0 ∧ dgt i1 ∧ dgt s0 ∧ dgt s1) ∧ h = ((h0.toNat : Int) - 48) * 10 + ((h1.toNat : Int) - 48) ∧ mi = ((i0.toNat : Int) - 48) * 10 + ((i1.toNat : Int) - 48) ∧ sc = ((s0.toNat : Int) - 48) * 10 + ((s1.toNat : Int) - 48) ∧
 0 ≤ h ∧ h ≤ 23 ∧ 0 ≤ mi ∧ mi ≤ 59 ∧ 0 ≤ sc ∧ sc ≤ 59
def MomB (v : ByteArray) (sec : Int) : Prop := ∃ a b c d e f g h h0 h1 i0 i1 s0 s1 y m dd hh mi sc, v = { data := #[a, b, c, d, e, f, g, h, 84, h0, h1, i0, i1, s0, s1, 90] } ∧ DayB a b c d e f g h y m dd ∧ ClkB h0 h1 i0 i1 s0 s1 hh mi sc ∧
 sec = dnum y m dd * 86400 + hh * 3600 + mi * 60 + sc
theorem sixteen (v : ByteArray) (h : v.size = 16) : ∃ a b c d e f g i t h0 h1 i0 i1 s0 s1 z : UInt8, v = { data := #[a, b, c, d, e, f, g, i, t, h0, h1, i0, i1, s0, s1, z] } := by
 obtain ⟨⟨l⟩⟩ := v
 match l, h with
 | [a, b, c, d, e, f, g, i, t, h0, h1, i0, i1, s0, s1, z], _ => exact ⟨a, b, c, d, e, f, g, i, t, h0, h1, i0, i1, s0, s1, z, rfl⟩
theorem two_spec (a b : UInt8) : ∃ r : Int × Bool, (∀ k, 2 < k → spec_inumber.f k { data := #[a, b] } = some r) ∧ (r.2 = true → dgt a ∧ dgt b ∧ r.1 = ((a.toNat : Int) - 48) * 10 + ((b.toNat : Int) - 48)) := by
 obtain ⟨r, A, B⟩ := inum_spec { data := #[a, b] } (by show 2 ≤ 8; omega)
 refine ⟨r, A, fun h => ?_⟩
 obtain ⟨D, -, E⟩ := B h
 have l : (ByteArray.mk #[a, b]).toList = [a, b] := by rw [Lib.toList_data]
 rw [l] at D E
 refine ⟨dgt_of _ D a (by simp), dgt_of _ D b (by simp), ?_⟩
 rw [E]; simp only [dec, List.foldl]; omega
theorem j1_spec (a b c d e f g i t h0 h1 i0 i1 s0 s1 z : UInt8) : ∃ r : Int × Bool × Bool, r.2.1 = false ∧ (∀ k, 12 < k → spec_IMoment.j1 k { data := #[a, b, c, d, e, f, g, i, t, h0, h1, i0, i1, s0, s1, z] } false = some r) ∧
  (r.2.2 = true → ∃ y m dd hh mi sc, DayB a b c d e f g i y m dd ∧ ClkB h0 h1 i0 i1 s0 s1 hh mi sc ∧ r.1 = dnum y m dd * 86400 + hh * 3600 + mi * 60 + sc) := by
 obtain ⟨q, Q1, Q2, Q3⟩ := date_spec a b c d e f g i
 obtain ⟨r1, A1, B1⟩ := two_spec h0 h1
 obtain ⟨r2, A2, B2⟩ := two_spec i0 i1
 obtain ⟨r3, A3, B3⟩ := two_spec s0 s1
 refine ⟨(wrap64 ((wrap64 (q.1 * 86400)) + (wrap64 ((wrap64 ((wrap64 (3600 * r1.1)) + (wrap64 (60 * r2.1)))) + r3.1))), false, q.2 && r1.2 && r2.2 && r3.2 && decide (r1.1 < 24) && decide (r2.1 < 60) && decide (r3.1 < 60)), rfl, fun k hk => ?_, fun hr => ?_⟩
 ·obtain ⟨k, rfl⟩ : ∃ j, k = j + 1 := ⟨k - 1, by omega⟩
  have e1 : (ByteArray.mk #[a, b, c, d, e, f, g, i, t, h0, h1, i0, i1, s0, s1, z]).extract 0 8 = { data := #[a, b, c, d, e, f, g, i] } := rfl
  have e2 : (ByteArray.mk #[a, b, c, d, e, f, g, i, t, h0, h1, i0, i1, s0, s1, z]).extract 9 11 = { data := #[h0, h1] } := rfl
  have e3 : (ByteArray.mk #[a, b, c, d, e, f, g, i, t, h0, h1, i0, i1, s0, s1, z]).extract 11 13 = { data := #[i0, i1] } := rfl
  have e4 : (ByteArray.mk #[a, b, c, d, e, f, g, i, t, h0, h1, i0, i1, s0, s1, z]).extract 13 15 = { data := #[s0, s1] } := rfl
  have es : ((ByteArray.mk #[a, b, c, d, e, f, g, i, t, h0, h1, i0, i1, s0, s1, z]).size : Int) = 16 := rfl
  simp only [spec_IMoment.j1, e1, e2, e3, e4, es, Q1 k (by omega), A1 k (by omega), A2 k (by omega), A3 k (by omega), Option.bind_some, Bool.false_eq_true, if_false]
  simp only [show ((0 : Int) ≤ 8) = True by simp, show ((8 : Int) ≤ 16) = True by simp, show ((9 : Int) ≤ 11) = True by simp, show ((11 : Int) ≤ 16) = True by simp, show ((11 : Int) ≤ 13) = True by simp, show ((13 : Int) ≤ 16) = True by simp, show ((13 : Int) ≤ 15) = True by simp, show ((15 : Int) ≤ 16) = True by simp, if_true]
  by_cases g0 : q.2 = true <;> by_cases g1 : r1.2 = true <;> by_cases g2 : r2.2 = true <;> by_cases g3 : r3.2 = true <;> by_cases g4 : r1.1 < 24 <;> by_cases g5 : r2.1 < 60 <;> simp [g0, g1, g2, g3, g4, g5]
 ·have hr' : (q.2 && r1.2 && r2.2 && r3.2 && decide (r1.1 < 24) && decide (r2.1 < 60) && decide (r3.1 < 60)) = true := hr
  simp only [Bool.and_eq_true, decide_eq_true_eq] at hr'
  obtain ⟨⟨⟨⟨⟨⟨g0, g1⟩, g2⟩, g3⟩, g4⟩, g5⟩, g6⟩ := hr'
  obtain ⟨y, m, dd, hD, hq⟩ := Q3 g0
  obtain ⟨x1, x2, x3⟩ := B1 g1
  obtain ⟨x4, x5, x6⟩ := B2 g2
  obtain ⟨x7, x8, x9⟩ := B3 g3
  have hd6 : dgt h0 ∧ dgt h1 ∧ dgt i0 ∧ dgt i1 ∧ dgt s0 ∧ dgt s1 := ⟨x1, x2, x4, x5, x7, x8⟩
  unfold dgt at x1 x2 x4 x5 x7 x8
  refine ⟨y, m, dd, r1.1, r2.1, r3.1, hD, ⟨hd6, x3, x6, x9, by omega, by omega, by omega, by omega, by omega, by omega⟩, ?_⟩
  show wrap64 _ = _
  rw [← hq]
  have w64 : ∀ x : Int, -9223372036854775808 ≤ x → x ≤ 9223372036854775807 → wrap64 x = x := fun x a b => by unfold wrap64; omega
  rw [w64 (q.1 * 86400) (by omega) (by omega), w64 (3600 * r1.1) (by omega) (by omega), w64 (60 * r2.1) (by omega) (by omega), w64 (3600 * r1.1 + 60 * r2.1) (by omega) (by omega), w64 (3600 * r1.1 + 60 * r2.1 + r3.1) (by omega) (by omega), w64 _ (by omega) (by omega)]
  omega
theorem imoment_spec (n : ByteArray) (ps : List S151) (v : ByteArray) : ∃ r : Int × Bool × Bool, (∀ k, 20 < k → spec_IMoment.f k n ps v = some r) ∧
  (r.2.2 = true → (r.2.1 = true ∧ (∃ p u, ps = [p] ∧ p.f0.toList = ([86, 65, 76, 85, 69] : List UInt8) ∧ p.f1 = [u] ∧ u.toList = ([68, 65, 84, 69] : List UInt8)) ∧ DatB v r.1) ∨ (r.2.1 = false ∧ ps = [] ∧ MomB v r.1)) := by
 have hz : ∀ r : Int × Bool × Bool, r = (0, false, false) → (r.2.2 = true → (r.2.1 = true ∧ (∃ p u, ps = [p] ∧ p.f0.toList = ([86, 65, 76, 85, 69] : List UInt8) ∧ p.f1 = [u] ∧ u.toList = ([68, 65, 84, 69] : List UInt8)) ∧ DatB v r.1) ∨ (r.2.1 = false ∧ ps = [] ∧ MomB v r.1)) := by
  rintro _ rfl h; cases h
 have hj1 : ∀ k, 0 < k → spec_IMoment.j1 k v true = some (0, false, false) := by
  intro k hk
  obtain ⟨k, rfl⟩ : ∃ j, k = j + 1 := ⟨k - 1, by omega⟩
  simp [spec_IMoment.j1]
 have hno : ∃ r : Int × Bool × Bool, (∀ k, 15 < k → spec_IMoment.j0 k false n ps v = some r) ∧ (r.2.2 = true → (r.2.1 = true ∧ (∃ p u, ps = [p] ∧ p.f0.toList = ([86, 65, 76, 85, 69] : List UInt8) ∧ p.f1 = [u] ∧ u.toList = ([68, 65, 84, 69] : List UInt8)) ∧ DatB v r.1) ∨ (r.2.1 = false ∧ ps = [] ∧ MomB v r.1)) := by
  by_cases hp : ps = []
  ·subst hp
   by_cases hs : v.size = 16
   ·obtain ⟨a, b, c, d, e, f, g, i, t, h0, h1, i0, i1, s0, s1, z, rfl⟩ := sixteen v hs
    have es : ((ByteArray.mk #[a, b, c, d, e, f, g, i, t, h0, h1, i0, i1, s0, s1, z]).size : Int) = 16 := rfl
    have e8 : bt (ByteArray.mk #[a, b, c, d, e, f, g, i, t, h0, h1, i0, i1, s0, s1, z]) 8 = (t.toNat : Int) := rfl
    have e15 : bt (ByteArray.mk #[a, b, c, d, e, f, g, i, t, h0, h1, i0, i1, s0, s1, z]) 15 = (z.toNat : Int) := rfl
    have hstep : ∀ k, spec_IMoment.j0 (k + 1) false n [] (ByteArray.mk #[a, b, c, d, e, f, g, i, t, h0, h1, i0, i1, s0, s1, z]) = if (t.toNat : Int) = 84 then spec_IMoment.j1 k (ByteArray.mk #[a, b, c, d, e, f, g, i, t, h0, h1, i0, i1, s0, s1, z]) ((z.toNat : Int) != 90) else spec_IMoment.j1 k (ByteArray.mk #[a, b, c, d, e, f, g, i, t, h0, h1, i0, i1, s0, s1, z]) true := by
     intro k
     simp only [spec_IMoment.j0, es, e8, e15]
     simp
    by_cases ht : (t.toNat : Int) = 84
    ·by_cases hzz : (z.toNat : Int) = 90
     ·obtain ⟨r, R0, R1, R2⟩ := j1_spec a b c d e f g i t h0 h1 i0 i1 s0 s1 z
      refine ⟨r, fun k hk => ?_, fun hr => ?_⟩
      ·obtain ⟨k, rfl⟩ : ∃ j, k = j + 1 := ⟨k - 1, by omega⟩
       rw [hstep, if_pos ht, hzz]
       exact R1 k (by omega)
      ·obtain ⟨y, m, dd, hh, mi, sc, q1, q2, q3⟩ := R2 hr
       have ht' : t = 84 := by apply UInt8.toNat_inj.1; exact_mod_cast ht
       have hz' : z = 90 := by apply UInt8.toNat_inj.1; exact_mod_cast hzz
       subst ht' hz'
       exact Or.inr ⟨R0, rfl, a, b, c, d, e, f, g, i, h0, h1, i0, i1, s0, s1, y, m, dd, hh, mi, sc, rfl, q1, q2, q3⟩
     ·refine ⟨_, fun k hk => ?_, hz _ rfl⟩
      obtain ⟨k, rfl⟩ : ∃ j, k = j + 1 := ⟨k - 1, by omega⟩
      have : ((z.toNat : Int) != 90) = true := by simpa using hzz
      rw [hstep, if_pos ht, this]
      exact hj1 k (by omega)
    ·refine ⟨_, fun k hk => ?_, hz _ rfl⟩
     obtain ⟨k, rfl⟩ : ∃ j, k = j + 1 := ⟨k - 1, by omega⟩
     rw [hstep, if_neg ht]
     exact hj1 k (by omega)
   ·refine ⟨_, fun k hk => ?_, hz _ rfl⟩
    obtain ⟨k, rfl⟩ : ∃ j, k = j + 1 := ⟨k - 1, by omega⟩
    simp only [spec_IMoment.j0]
    rw [if_neg (by simp), if_neg (by simp), if_neg (by omega)]
    exact hj1 k (by omega)
  ·refine ⟨_, fun k hk => ?_, hz _ rfl⟩
   obtain ⟨k, rfl⟩ : ∃ j, k = j + 1 := ⟨k - 1, by omega⟩
   have := List.length_pos_iff.2 hp
   simp only [spec_IMoment.j0]
   rw [if_neg (by simp), if_pos (by omega)]
   exact hj1 k (by omega)
 obtain ⟨r0, N1, N2⟩ := hno
 match ps, N1, N2 with
 | [], N1, N2 =>
  exact ⟨r0, fun k hk => by unfold spec_IMoment.f; rw [if_neg (by simp)]; exact N1 k (by omega), N2⟩
 | p :: q :: l, N1, N2 =>
  exact ⟨r0, fun k hk => by unfold spec_IMoment.f; rw [if_neg (by simp; omega)]; exact N1 k (by omega), N2⟩
 | [p], N1, N2 =>
  have er : rd_T151 [p] 0 = p := rfl
  by_cases h0 : p.f0.toList = ([86, 65, 76, 85, 69] : List UInt8)
  ·match h1 : p.f1 with
   | [] => exact ⟨r0, fun k hk => by unfold spec_IMoment.f; rw [if_pos (by simp), if_pos (by simp), er, if_pos h0, h1, if_neg (by simp)]; exact N1 k (by omega), N2⟩
   | u :: u2 :: l => exact ⟨r0, fun k hk => by unfold spec_IMoment.f; rw [if_pos (by simp), if_pos (by simp), er, if_pos h0, h1, if_neg (by simp; omega)]; exact N1 k (by omega), N2⟩
   | [u] =>
    have hf : ∀ k, spec_IMoment.f k n [p] v = spec_IMoment.j0 k (u.toList == ([68, 65, 84, 69] : List UInt8)) n [p] v := fun k => by
     unfold spec_IMoment.f; rw [if_pos (by simp), if_pos (by simp), er, if_pos h0, h1, if_pos (by simp), if_pos (by simp)]; rfl
    by_cases hd : u.toList = ([68, 65, 84, 69] : List UInt8)
    ·have hb : (u.toList == ([68, 65, 84, 69] : List UInt8)) = true := by simpa using hd
     rw [hb] at hf
     by_cases h8 : v.size = 8
     ·obtain ⟨a, b, c, d, e, f, g, i, rfl⟩ := eight v h8
      obtain ⟨q, Q1, Q2, Q3⟩ := date_spec a b c d e f g i
      refine ⟨(wrap64 (q.1 * 86400), true, q.2), fun k hk => ?_, fun hr => Or.inl ⟨rfl, ⟨p, u, rfl, h0, h1, hd⟩, ?_⟩⟩
      ·obtain ⟨k, rfl⟩ : ∃ j, k = j + 1 := ⟨k - 1, by omega⟩
       rw [hf]
       simp only [spec_IMoment.j0, if_true]
       rw [Q1 k (by omega)]; rfl
      ·obtain ⟨y, m, dd, q1, q2⟩ := Q3 hr
       exact ⟨a, b, c, d, e, f, g, i, y, m, dd, rfl, q1, by show wrap64 _ = _; rw [← q2]; unfold wrap64; omega⟩
     ·refine ⟨(wrap64 (0 * 86400), true, false), fun k hk => ?_, fun h => by cases h⟩
      obtain ⟨k, rfl⟩ : ∃ j, k = j + 1 := ⟨k - 1, by omega⟩
      rw [hf]
      simp only [spec_IMoment.j0, if_true]
      rw [date_no v h8 k]; rfl
    ·have hb : (u.toList == ([68, 65, 84, 69] : List UInt8)) = false := by simpa using hd
     rw [hb] at hf
     exact ⟨r0, fun k hk => by rw [hf]; exact N1 k (by omega), N2⟩
  ·exact ⟨r0, fun k hk => by unfold spec_IMoment.f; rw [if_pos (by simp), if_pos (by simp), er, if_neg h0]; exact N1 k (by omega), N2⟩
end Go.Proofs.YtcllaplddebilaaGreatDoor

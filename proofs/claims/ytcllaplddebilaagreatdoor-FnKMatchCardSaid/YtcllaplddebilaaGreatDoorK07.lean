/- laws.FnKMatch: a part of the proof: FilterOf. -/
import Derived.Test.YtcllaplddebilaaGreatDoorK06
set_option maxRecDepth 1000000
set_option maxHeartbeats 64000000
set_option linter.unusedVariables false
set_option linter.unusedSimpArgs false
namespace Go.Proofs.YtcllaplddebilaaGreatDoor
open Go.RowKit Go.Sort
attribute [local go_sem] cell?_grow frozen?_grow cell?_redrawn frozen?_redrawn size_redrawn size_grow ba_get ba_extract
attribute [local simp] size_redrawn
open Go.Lib Go.Proofs.YtcllaplddebilaaGreatDoorW.PrintWords Go.Proofs.YtcllaplddebilaaGreatDoorW.PrintLast Go.Proofs.YtcllaplddebilaaGreatDoorW.PrintMore
structure KaOk (x : KPa) : Prop where
 name : x.name.size ≤ 50
 text : ∀ t, x.text = some t → t.1.size ≤ 200
structure KpOk (x : KPr) : Prop where
 name : x.name.size ≤ 50
 st : 0 ≤ x.st ∧ x.st ≤ 8589934592
 en : 0 ≤ x.en ∧ x.en ≤ 8589934592
 text : ∀ t, x.text = some t → t.1.size ≤ 200
 len : x.params.length ≤ 10
 params : ∀ q ∈ x.params, KaOk q
inductive KOk : KCo → Prop
 | mk (x : KCo) : x.name.size ≤ 50 → 0 ≤ x.st ∧ x.st ≤ 8589934592 → 0 ≤ x.en ∧ x.en ≤ 8589934592 → x.props.length ≤ 10 → x.comps.length ≤ 40 → (∀ p ∈ x.props, KpOk p) → (∀ g ∈ x.comps, KOk g) → KOk x
abbrev oC (x : KCo) (v v2 : Value) : Array Value := #[.string x.name, .bool x.absent, .int .i64 (momS x.has x.st), .int .i32 0, .string (momL x.has), .int .i64 0, .int .i64 (momS x.hasEnd x.en), .int .i32 0, .string (momL x.hasEnd), .int .i64 0, v, v2]
abbrev oP (x : KPr) (p : Option Addr) (v : Value) : Array Value := #[.string x.name, .bool x.absent, .int .i64 (momS x.has x.st), .int .i32 0, .string (momL x.has), .int .i64 0, .int .i64 (momS x.hasEnd x.en), .int .i32 0, .string (momL x.hasEnd), .int .i64 0, .pointer p, v]
abbrev zC : Array Value := #[.string { data := #[] }, .bool false, .int .i64 0, .int .i32 0, .string { data := #[] }, .int .i64 0, .int .i64 0, .int .i32 0, .string { data := #[] }, .int .i64 0, .slice none 0 0, .slice none 0 0]
abbrev zP : Array Value := #[.string { data := #[] }, .bool false, .int .i64 0, .int .i32 0, .string { data := #[] }, .int .i64 0, .int .i64 0, .int .i32 0, .string { data := #[] }, .int .i64 0, .pointer none, .slice none 0 0]
abbrev iP (x : KPr) (q : Option Addr) (V : Option Addr) (cv : Nat) : Array Value := #[.string x.name, .bool x.absent, .bool x.has, .bool x.hasEnd, .int .i64 x.st, .int .i64 x.en, .pointer q, .slice V x.params.length cv]
abbrev tMom (has : Bool) (n : Int) : Value := .agg #[.int .i64 (momS has n), .int .i32 0, .string (momL has), .int .i64 0]
theorem TmNew.below {w w1 : World} {base : Nat} {q : Option Addr} {x : KT} (h : TmNew w base (fun _ => True) q x) (hb : Below w.heap.size w w1) : TmNew w1 base (fun _ => True) q x := by
 cases x with
 | none => exact h
 | some t =>
  obtain ⟨b, h0, h1, h2, h3⟩ := h
  exact ⟨b, h0, h1, h2, below_blk hb h3⟩
theorem TmNew.of {w : World} {base lo hi : Nat} {ok : Nat → Prop} {q : Option Addr} {x : KT} (h : TxtNew w lo hi q x) (hb : base ≤ lo) (hok : ∀ k, lo ≤ k → ok k) : TmNew w base ok q x := by
 cases x with
 | none => exact h
 | some t =>
  obtain ⟨b, h0, h1, h2, h3⟩ := h
  exact ⟨b, h0, Nat.le_trans hb h1, hok b h1, h3⟩
theorem TmNew.step {w w1 : World} {base : Nat} {q : Option Addr} {x : KT} (h : TmNew w base (fun _ => True) q x) (hk : ∀ k, k < w.heap.size → (∃ cs, w.heap[k]? = some (.cells cs 229 (0, 0))) → w1.heap[k]? = w.heap[k]?) : TmNew w1 base (fun _ => True) q x := by
 cases x with
 | none => exact h
 | some t =>
  obtain ⟨b, h0, h1, h2, h3⟩ := h
  exact ⟨b, h0, h1, h2, (hk b (lt_blk h3) ⟨_, h3⟩).trans h3⟩
theorem comp_lt (x k : KCo) (h : k ∈ x.comps) : SizeOf.sizeOf k < SizeOf.sizeOf x := by
 have := List.sizeOf_lt_of_mem h
 cases x
 simp at this ⊢
 omega
def FiltPost (w : World) (x : KCo) (e : Ending) (w' : World) : Prop := ∃ v v2, e = .returned (.agg #[.string x.name, .bool x.absent, .int .i64 (momS x.has x.st), .int .i32 0, .string (momL x.has), .int .i64 0, .int .i64 (momS x.hasEnd x.en), .int .i32 0, .string (momL x.hasEnd), .int .i64 0, v, v2]) ∧
 oPr.R 168 w' w.heap.size (fun _ => True) v x.props ∧ oCo.R 91 w' w.heap.size (fun _ => True) v2 x.comps ∧ Below w.heap.size w w'
theorem moment' (has : Bool) (n : Int) (w : World) (h : 0 ≤ n ∧ n ≤ 8589934592) : Calls Tryz.prog 71 #[.bool has, .int .i64 n] w fun e w' => e = .returned (.agg #[.int .i64 (momS has n), .int .i32 0, .string (momL has), .int .i64 0]) ∧ Below w.heap.size w w' := by
 have := moment has n w (by omega) (by omega)
 rwa [momV_eq] at this
theorem filterOf_step (x : KCo) (hO : KOk x)
  (ih : ∀ k ∈ x.comps, ∀ (A B : Option Addr) (c c2 : Nat) (w0 w : World), Below w0.heap.size w0 w → kPr.C w0 A k.props.length k.props → kCo.C w0 B k.comps.length k.comps → Calls Tryz.prog 39 #[.agg #[.string k.name, .bool k.absent, .bool k.has, .bool k.hasEnd, .int .i64 k.st, .int .i64 k.en, .slice A k.props.length c, .slice B k.comps.length c2]] w (FiltPost w k))
  (A B : Option Addr) (c c2 : Nat) (w0 w : World) (hb0 : Below w0.heap.size w0 w) (hp : kPr.C w0 A x.props.length x.props) (hkk : kCo.C w0 B x.comps.length x.comps) :
  Calls Tryz.prog 39 #[.agg #[.string x.name, .bool x.absent, .bool x.has, .bool x.hasEnd, .int .i64 x.st, .int .i64 x.en, .slice A x.props.length c, .slice B x.comps.length c2]] w (FiltPost w x) := by
 have hl1 := hp.2.1
 have hl2 := hkk.2.1
 obtain ⟨hst, hen⟩ : (0 ≤ x.st ∧ x.st ≤ 8589934592) ∧ (0 ≤ x.en ∧ x.en ≤ 8589934592) := by cases hO with | mk _ a b c d e f g => exact ⟨b, c⟩
 have hOk := hI hO
 clear hO
 go_enter Tryz.func39, Tryz.ntmps39
 go_wp2_with fail
 have hX0 := old_blk (new_blk w (.cells #[.string x.name, .bool x.absent, .bool x.has, .bool x.hasEnd, .int .i64 x.st, .int .i64 x.en, .slice A x.props.length c, .slice B x.comps.length c2] 42)) (.cells #[.string { data := #[] }, .bool false, .int .i64 0, .int .i32 0, .string { data := #[] }, .int .i64 0, .int .i64 0, .int .i32 0, .string { data := #[] }, .int .i64 0, .slice none 0 0, .slice none 0 0] 91)
 have hR0 := new_blk (w.alloc (.cells #[.string x.name, .bool x.absent, .bool x.has, .bool x.hasEnd, .int .i64 x.st, .int .i64 x.en, .slice A x.props.length c, .slice B x.comps.length c2] 42)) (.cells #[.string { data := #[] }, .bool false, .int .i64 0, .int .i32 0, .string { data := #[] }, .int .i64 0, .int .i64 0, .int .i32 0, .string { data := #[] }, .int .i64 0, .slice none 0 0, .slice none 0 0] 91)
 have hB0 : Below w.heap.size w ((w.alloc (.cells #[.string x.name, .bool x.absent, .bool x.has, .bool x.hasEnd, .int .i64 x.st, .int .i64 x.en, .slice A x.props.length c, .slice B x.comps.length c2] 42)).alloc (.cells #[.string { data := #[] }, .bool false, .int .i64 0, .int .i32 0, .string { data := #[] }, .int .i64 0, .int .i64 0, .int .i32 0, .string { data := #[] }, .int .i64 0, .slice none 0 0, .slice none 0 0] 91)) := ((Below.refl _ _).alloc (Nat.le_refl _) _).alloc (by simp) _
 simp only [World.size_alloc] at hR0
 generalize hw1 : World.alloc _ _ = w1 at hX0 hR0 hB0 ⊢
 clear hw1
 have q0 := (cell_blk hX0 0).trans rfl
 have q1 := (cell_blk hX0 1).trans rfl
 have q2 := (cell_blk hX0 2).trans rfl
 have q3 := (cell_blk hX0 3).trans rfl
 have q4 := (cell_blk hX0 4).trans rfl
 have q5 := (cell_blk hX0 5).trans rfl
 refine start_ (n := 17) (S := fun W => W.cell? ⟨w.heap.size, 0, none⟩ = some (.string x.name) ∧ W.cell? ⟨w.heap.size, 1, none⟩ = some (.bool x.absent) ∧ W.cell? ⟨w.heap.size, 2, none⟩ = some (.bool x.has) ∧ W.cell? ⟨w.heap.size, 3, none⟩ = some (.bool x.hasEnd) ∧ W.cell? ⟨w.heap.size, 4, none⟩ = some (.int .i64 x.st) ∧ W.cell? ⟨w.heap.size, 5, none⟩ = some (.int .i64 x.en)) (ds := [16]) (bM 17 0) (by kernel_rfl) rfl (by kernel_rfl) ⟨q0, q1, q2, q3, q4, q5⟩ (fun hHeld => ?_)
 have hB1 : Below w.heap.size w w1.drew := hB0.drew
 have hX1 : w1.drew.heap[w.heap.size]? = _ := hX0
 have hR1 : w1.drew.heap[w.heap.size + 1]? = _ := hR0
 generalize w1.drew = wk at hX1 hR1 hB1 hHeld ⊢
 have HX := hI hX1
 have HR := hI hR1
 have HB := hI hB1
 clear hX0 hR0 hB0 hX1 hR1 hB1 q0 q1 q2 q3 q4 q5
 refine pU 0 17 1 (some 11) rfl rfl (by kernel_rfl) rfl (fun _ => by go_simp; with_reducible rfl) (by simp only [sW]; rfl) ?_
 refine tA 1 17 3 (some 12) rfl rfl (by kernel_rfl) rfl (fun _ ⟨s0, s1, s2, s3, s4, s5⟩ => by go_simp; with_reducible rfl) hHeld (by simp only [sW]; rfl) ?_
 refine pU 2 17 7 (some 13) rfl rfl (by kernel_rfl) rfl (fun _ => by go_simp; with_reducible rfl) (by simp only [sW]; rfl) ?_
 refine tA 3 17 15 (some 14) rfl rfl (by kernel_rfl) rfl (fun _ ⟨s0, s1, s2, s3, s4, s5⟩ => by go_simp; with_reducible rfl) hHeld (by simp only [sW]; rfl) ?_
 refine pU 4 17 31 (some 15) rfl rfl (by kernel_rfl) rfl (fun _ => by go_simp; with_reducible rfl) (by simp only [sW]; rfl) ?_
 refine tA 5 17 63 (some 16) rfl rfl (by kernel_rfl) rfl (fun _ ⟨s0, s1, s2, s3, s4, s5⟩ => by go_simp; with_reducible rfl) hHeld (by simp only [sW]; rfl) ?_
 refine pU 6 17 127 (some 17) rfl rfl (by kernel_rfl) rfl (fun _ => by go_simp; with_reducible rfl) (by simp only [sW]; rfl) ?_
 refine tA 7 17 255 (some 18) rfl rfl (by kernel_rfl) rfl (fun _ ⟨s0, s1, s2, s3, s4, s5⟩ => by go_simp; with_reducible rfl) hHeld (by simp only [sW]; rfl) ?_
 refine pU 9 17 767 (some 20) rfl rfl (by kernel_rfl) rfl (fun _ => by go_simp; with_reducible rfl) (by simp only [sW]; rfl) ?_
 refine tA 10 17 1791 (some 21) rfl rfl (by kernel_rfl) rfl (fun _ ⟨s0, s1, s2, s3, s4, s5⟩ => by go_simp; with_reducible rfl) hHeld (by simp only [sW]; rfl) ?_
 refine pU 11 17 3839 (some 22) rfl rfl (by kernel_rfl) rfl (fun _ => by go_simp; with_reducible rfl) (by simp only [sW]; rfl) ?_
 refine tA 12 17 7935 (some 23) rfl rfl (by kernel_rfl) rfl (fun _ ⟨s0, s1, s2, s3, s4, s5⟩ => by go_simp; with_reducible rfl) hHeld (by simp only [sW]; rfl) ?_
 refine join_ (σ := Nat) 1 (bM 17 65535) (fun b => [(19, .agg #[.int .i64 (momS x.has x.st), .int .i32 0, .string (momL x.has), .int .i64 0]), (24, .agg #[.int .i64 (momS x.hasEnd x.en), .int .i32 0, .string (momL x.hasEnd), .int .i64 0]), (25, .agg #[.string x.name, .bool x.absent, .int .i64 (momS x.has x.st), .int .i32 0, .string (momL x.has), .int .i64 0, .int .i64 (momS x.hasEnd x.en), .int .i32 0, .string (momL x.hasEnd), .int .i64 0, .slice none 0 0, .slice none 0 0]), (3, .pointer (some ⟨b, 0, none⟩))]) (fun b W => (W.heap[b]? = some (.cells #[.string { data := #[] }, .bool false, .int .i64 0, .int .i32 0, .string { data := #[] }, .int .i64 0, .int .i64 0, .int .i32 0, .string { data := #[] }, .int .i64 0, .slice none 0 0, .slice none 0 0] 91) ∧ w.heap.size + 1 < b) ∧ Below w.heap.size w W ∧ W.heap[w.heap.size]? = some (.cells #[.string x.name, .bool x.absent, .bool x.has, .bool x.hasEnd, .int .i64 x.st, .int .i64 x.en, .slice A x.props.length c, .slice B x.comps.length c2] 42) ∧ W.heap[w.heap.size + 1]? = some (.cells #[.string { data := #[] }, .bool false, .int .i64 0, .int .i32 0, .string { data := #[] }, .int .i64 0, .int .i64 0, .int .i32 0, .string { data := #[] }, .int .i64 0, .slice none 0 0, .slice none 0 0] 91)) ?_ ?_
 rotate_left
 ·intro hCont
  refine two_ (i := 8) (j := 15) (Ni := some 19) (Nj := some 3) (bM 17 8191) (bM 17 40703) rfl rfl rfl rfl (by kernel_rfl) (by decide) (by decide) (fun K hK => ?_) (fun K hK => ?_)
  ·skip
   refine goes_ Tryz.func71 (by kernel_rfl) rfl #[.bool x.has, .int .i64 x.st] (by rfl) rfl rfl (by (try simp only [List.map_toArray, List.map_cons, List.map_nil]); first | done | rfl | (simp only [List.length_drop, List.length_take]; rfl)) ?_; refine (moment' x.has x.st _ hst).mono ?_
   rintro e wk ⟨rfl, hb⟩
   refine ⟨_, rfl, ?_⟩
   have HX := hI (below_blk hb HX.out)
   have HR := hI (below_blk hb HR.out)
   have HB := hI (HB.out.trans (hb.mono HB.out.size))
   try have HZ := hI (And.intro (below_blk hb HZ.out.1) HZ.out.2)
   clear hb
   refine hK.out _ _ ⟨(cell_blk HX.out 0).trans rfl, (cell_blk HX.out 1).trans rfl, (cell_blk HX.out 2).trans rfl, (cell_blk HX.out 3).trans rfl, (cell_blk HX.out 4).trans rfl, (cell_blk HX.out 5).trans rfl⟩ (fun hHeld => ?_)
   clear hK K
   refine norm_ (by show Act.put _ (some 19) _ = _; simp only [sW]; rfl) ?_
   refine two_ (i := 13) (j := 15) (Ni := some 24) (Nj := some 3) (bM 17 16383) (bM 17 40959) rfl rfl rfl rfl (by kernel_rfl) (by decide) (by decide) (fun K hK => ?_) (fun K hK => ?_)
   ·skip
    refine goes_ Tryz.func71 (by kernel_rfl) rfl #[.bool x.hasEnd, .int .i64 x.en] (by rfl) rfl rfl (by (try simp only [List.map_toArray, List.map_cons, List.map_nil]); first | done | rfl | (simp only [List.length_drop, List.length_take]; rfl)) ?_; refine (moment' x.hasEnd x.en _ hen).mono ?_
    rintro e wk ⟨rfl, hb⟩
    refine ⟨_, rfl, ?_⟩
    have HX := hI (below_blk hb HX.out)
    have HR := hI (below_blk hb HR.out)
    have HB := hI (HB.out.trans (hb.mono HB.out.size))
    try have HZ := hI (And.intro (below_blk hb HZ.out.1) HZ.out.2)
    clear hb
    refine hK.out _ _ ⟨(cell_blk HX.out 0).trans rfl, (cell_blk HX.out 1).trans rfl, (cell_blk HX.out 2).trans rfl, (cell_blk HX.out 3).trans rfl, (cell_blk HX.out 4).trans rfl, (cell_blk HX.out 5).trans rfl⟩ (fun hHeld => ?_)
    clear hK K
    refine norm_ (by show Act.put _ (some 24) _ = _; simp only [sW]; rfl) ?_
    refine pU 14 17 32767 (some 25) rfl rfl (by kernel_rfl) rfl (fun _ => by go_simp; with_reducible rfl) (by simp only [sW]; rfl) ?_
    refine oN 15 17 65535 (some 3) rfl rfl (by kernel_rfl) (by decide) (fun K hK => ?_)
    refine value_ (v := ?_) (w1 := ?_) (by rfl) rfl ?_ ?_; rotate_left 2; (go_simp; first | rfl | (constructor <;> rfl))
    have hz := new_blk wk (.cells #[.string { data := #[] }, .bool false, .int .i64 0, .int .i32 0, .string { data := #[] }, .int .i64 0, .int .i64 0, .int .i32 0, .string { data := #[] }, .int .i64 0, .slice none 0 0, .slice none 0 0] 91); have hx := old_blk HX.out (.cells #[.string { data := #[] }, .bool false, .int .i64 0, .int .i32 0, .string { data := #[] }, .int .i64 0, .int .i64 0, .int .i32 0, .string { data := #[] }, .int .i64 0, .slice none 0 0, .slice none 0 0] 91); have hr := old_blk HR.out (.cells #[.string { data := #[] }, .bool false, .int .i64 0, .int .i32 0, .string { data := #[] }, .int .i64 0, .int .i64 0, .int .i32 0, .string { data := #[] }, .int .i64 0, .slice none 0 0, .slice none 0 0] 91); have hB := HB.out.alloc HB.out.size (.cells #[.string { data := #[] }, .bool false, .int .i64 0, .int .i32 0, .string { data := #[] }, .int .i64 0, .int .i64 0, .int .i32 0, .string { data := #[] }, .int .i64 0, .slice none 0 0, .slice none 0 0] 91); have hlt := lt_blk HR.out; generalize hwa : wk.alloc (.cells #[.string { data := #[] }, .bool false, .int .i64 0, .int .i32 0, .string { data := #[] }, .int .i64 0, .int .i64 0, .int .i32 0, .string { data := #[] }, .int .i64 0, .slice none 0 0, .slice none 0 0] 91) = wa at hz hx hr hB ⊢; have HZ := hI (And.intro hz hlt); have HX := hI hx; have HR := hI hr; have HB := hI hB; clear hz hx hr hB hlt hwa; obtain ⟨wk, hwk⟩ : ∃ x, x = wa := ⟨wa, rfl⟩; subst hwk
    refine hK.out _ _ ⟨(cell_blk HX.out 0).trans rfl, (cell_blk HX.out 1).trans rfl, (cell_blk HX.out 2).trans rfl, (cell_blk HX.out 3).trans rfl, (cell_blk HX.out 4).trans rfl, (cell_blk HX.out 5).trans rfl⟩ (fun hHeld => ?_)
    clear hK K
    refine norm_ (by show Act.put _ (some 3) _ = _; simp only [sW]; rfl) ?_
    exact norm_ (by first | (simp only [putAll, sW]; done) | (simp only [putAll, sW]; rfl)) (hCont _ _ ⟨HZ.out, HB.out, HX.out, HR.out⟩)
   ·skip
    refine value_ (v := ?_) (w1 := ?_) (by rfl) rfl ?_ ?_; rotate_left 2; (go_simp; first | rfl | (constructor <;> rfl))
    have hz := new_blk wk (.cells #[.string { data := #[] }, .bool false, .int .i64 0, .int .i32 0, .string { data := #[] }, .int .i64 0, .int .i64 0, .int .i32 0, .string { data := #[] }, .int .i64 0, .slice none 0 0, .slice none 0 0] 91); have hx := old_blk HX.out (.cells #[.string { data := #[] }, .bool false, .int .i64 0, .int .i32 0, .string { data := #[] }, .int .i64 0, .int .i64 0, .int .i32 0, .string { data := #[] }, .int .i64 0, .slice none 0 0, .slice none 0 0] 91); have hr := old_blk HR.out (.cells #[.string { data := #[] }, .bool false, .int .i64 0, .int .i32 0, .string { data := #[] }, .int .i64 0, .int .i64 0, .int .i32 0, .string { data := #[] }, .int .i64 0, .slice none 0 0, .slice none 0 0] 91); have hB := HB.out.alloc HB.out.size (.cells #[.string { data := #[] }, .bool false, .int .i64 0, .int .i32 0, .string { data := #[] }, .int .i64 0, .int .i64 0, .int .i32 0, .string { data := #[] }, .int .i64 0, .slice none 0 0, .slice none 0 0] 91); have hlt := lt_blk HR.out; generalize hwa : wk.alloc (.cells #[.string { data := #[] }, .bool false, .int .i64 0, .int .i32 0, .string { data := #[] }, .int .i64 0, .int .i64 0, .int .i32 0, .string { data := #[] }, .int .i64 0, .slice none 0 0, .slice none 0 0] 91) = wa at hz hx hr hB ⊢; have HZ := hI (And.intro hz hlt); have HX := hI hx; have HR := hI hr; have HB := hI hB; clear hz hx hr hB hlt hwa; obtain ⟨wk, hwk⟩ : ∃ x, x = wa := ⟨wa, rfl⟩; subst hwk
    refine hK.out _ _ ⟨(cell_blk HX.out 0).trans rfl, (cell_blk HX.out 1).trans rfl, (cell_blk HX.out 2).trans rfl, (cell_blk HX.out 3).trans rfl, (cell_blk HX.out 4).trans rfl, (cell_blk HX.out 5).trans rfl⟩ (fun hHeld => ?_)
    clear hK K
    refine norm_ (by show Act.put _ (some 3) _ = _; simp only [sW]; rfl) ?_
    refine oN 13 17 49151 (some 24) rfl rfl (by kernel_rfl) (by decide) (fun K hK => ?_)
    refine goes_ Tryz.func71 (by kernel_rfl) rfl #[.bool x.hasEnd, .int .i64 x.en] (by rfl) rfl rfl (by (try simp only [List.map_toArray, List.map_cons, List.map_nil]); first | done | rfl | (simp only [List.length_drop, List.length_take]; rfl)) ?_; refine (moment' x.hasEnd x.en _ hen).mono ?_
    rintro e wk ⟨rfl, hb⟩
    refine ⟨_, rfl, ?_⟩
    have HX := hI (below_blk hb HX.out)
    have HR := hI (below_blk hb HR.out)
    have HB := hI (HB.out.trans (hb.mono HB.out.size))
    try have HZ := hI (And.intro (below_blk hb HZ.out.1) HZ.out.2)
    clear hb
    refine hK.out _ _ ⟨(cell_blk HX.out 0).trans rfl, (cell_blk HX.out 1).trans rfl, (cell_blk HX.out 2).trans rfl, (cell_blk HX.out 3).trans rfl, (cell_blk HX.out 4).trans rfl, (cell_blk HX.out 5).trans rfl⟩ (fun hHeld => ?_)
    clear hK K
    refine norm_ (by show Act.put _ (some 24) _ = _; simp only [sW]; rfl) ?_
    refine pU 14 17 65535 (some 25) rfl rfl (by kernel_rfl) rfl (fun _ => by go_simp; with_reducible rfl) (by simp only [sW]; rfl) ?_
    exact norm_ (by first | (simp only [putAll, sW]; done) | (simp only [putAll, sW]; rfl)) (hCont _ _ ⟨HZ.out, HB.out, HX.out, HR.out⟩)
  ·skip
   refine value_ (v := ?_) (w1 := ?_) (by rfl) rfl ?_ ?_; rotate_left 2; (go_simp; first | rfl | (constructor <;> rfl))
   have hz := new_blk wk (.cells #[.string { data := #[] }, .bool false, .int .i64 0, .int .i32 0, .string { data := #[] }, .int .i64 0, .int .i64 0, .int .i32 0, .string { data := #[] }, .int .i64 0, .slice none 0 0, .slice none 0 0] 91); have hx := old_blk HX.out (.cells #[.string { data := #[] }, .bool false, .int .i64 0, .int .i32 0, .string { data := #[] }, .int .i64 0, .int .i64 0, .int .i32 0, .string { data := #[] }, .int .i64 0, .slice none 0 0, .slice none 0 0] 91); have hr := old_blk HR.out (.cells #[.string { data := #[] }, .bool false, .int .i64 0, .int .i32 0, .string { data := #[] }, .int .i64 0, .int .i64 0, .int .i32 0, .string { data := #[] }, .int .i64 0, .slice none 0 0, .slice none 0 0] 91); have hB := HB.out.alloc HB.out.size (.cells #[.string { data := #[] }, .bool false, .int .i64 0, .int .i32 0, .string { data := #[] }, .int .i64 0, .int .i64 0, .int .i32 0, .string { data := #[] }, .int .i64 0, .slice none 0 0, .slice none 0 0] 91); have hlt := lt_blk HR.out; generalize hwa : wk.alloc (.cells #[.string { data := #[] }, .bool false, .int .i64 0, .int .i32 0, .string { data := #[] }, .int .i64 0, .int .i64 0, .int .i32 0, .string { data := #[] }, .int .i64 0, .slice none 0 0, .slice none 0 0] 91) = wa at hz hx hr hB ⊢; have HZ := hI (And.intro hz hlt); have HX := hI hx; have HR := hI hr; have HB := hI hB; clear hz hx hr hB hlt hwa; obtain ⟨wk, hwk⟩ : ∃ x, x = wa := ⟨wa, rfl⟩; subst hwk
   refine hK.out _ _ ⟨(cell_blk HX.out 0).trans rfl, (cell_blk HX.out 1).trans rfl, (cell_blk HX.out 2).trans rfl, (cell_blk HX.out 3).trans rfl, (cell_blk HX.out 4).trans rfl, (cell_blk HX.out 5).trans rfl⟩ (fun hHeld => ?_)
   clear hK K
   refine norm_ (by show Act.put _ (some 3) _ = _; simp only [sW]; rfl) ?_
   refine oN 8 17 40959 (some 19) rfl rfl (by kernel_rfl) (by decide) (fun K hK => ?_)
   refine goes_ Tryz.func71 (by kernel_rfl) rfl #[.bool x.has, .int .i64 x.st] (by rfl) rfl rfl (by (try simp only [List.map_toArray, List.map_cons, List.map_nil]); first | done | rfl | (simp only [List.length_drop, List.length_take]; rfl)) ?_; refine (moment' x.has x.st _ hst).mono ?_
   rintro e wk ⟨rfl, hb⟩
   refine ⟨_, rfl, ?_⟩
   have HX := hI (below_blk hb HX.out)
   have HR := hI (below_blk hb HR.out)
   have HB := hI (HB.out.trans (hb.mono HB.out.size))
   try have HZ := hI (And.intro (below_blk hb HZ.out.1) HZ.out.2)
   clear hb
   refine hK.out _ _ ⟨(cell_blk HX.out 0).trans rfl, (cell_blk HX.out 1).trans rfl, (cell_blk HX.out 2).trans rfl, (cell_blk HX.out 3).trans rfl, (cell_blk HX.out 4).trans rfl, (cell_blk HX.out 5).trans rfl⟩ (fun hHeld => ?_)
   clear hK K
   refine norm_ (by show Act.put _ (some 19) _ = _; simp only [sW]; rfl) ?_
   refine oN 13 17 49151 (some 24) rfl rfl (by kernel_rfl) (by decide) (fun K hK => ?_)
   refine goes_ Tryz.func71 (by kernel_rfl) rfl #[.bool x.hasEnd, .int .i64 x.en] (by rfl) rfl rfl (by (try simp only [List.map_toArray, List.map_cons, List.map_nil]); first | done | rfl | (simp only [List.length_drop, List.length_take]; rfl)) ?_; refine (moment' x.hasEnd x.en _ hen).mono ?_
   rintro e wk ⟨rfl, hb⟩
   refine ⟨_, rfl, ?_⟩
   have HX := hI (below_blk hb HX.out)
   have HR := hI (below_blk hb HR.out)
   have HB := hI (HB.out.trans (hb.mono HB.out.size))
   try have HZ := hI (And.intro (below_blk hb HZ.out.1) HZ.out.2)
   clear hb
   refine hK.out _ _ ⟨(cell_blk HX.out 0).trans rfl, (cell_blk HX.out 1).trans rfl, (cell_blk HX.out 2).trans rfl, (cell_blk HX.out 3).trans rfl, (cell_blk HX.out 4).trans rfl, (cell_blk HX.out 5).trans rfl⟩ (fun hHeld => ?_)
   clear hK K
   refine norm_ (by show Act.put _ (some 24) _ = _; simp only [sW]; rfl) ?_
   refine pU 14 17 65535 (some 25) rfl rfl (by kernel_rfl) rfl (fun _ => by go_simp; with_reducible rfl) (by simp only [sW]; rfl) ?_
   exact norm_ (by first | (simp only [putAll, sW]; done) | (simp only [putAll, sW]; rfl)) (hCont _ _ ⟨HZ.out, HB.out, HX.out, HR.out⟩)
 rintro b w2 ⟨⟨hZ, hbz⟩, hB, hX, hR⟩
 refine norm_ (a' := ?_) ?_ ?_
 rotate_left
 ·first | (simp only [putAll, sW]; done) | (simp only [putAll, sW]; rfl)
 refine lA 16 17 131071 none rfl rfl (by kernel_rfl) (by decide) (fun K hK => ?_)
 refine store_step 91 (.tmp 3) (.tmp 25) b 91 _ (.agg (oC x nilS nilS)) (oC x nilS nilS).toList (by rfl) rfl rfl rfl rfl rfl hZ (by kernel_rfl) rfl rfl ?_
 rintro w3 hZ3 hk3 hs3 hB3
 refine hK.out _ _ ?_
 clear hK K
 refine done_ (by kernel_rfl) ?_
 have HZ := hI hZ3
 have HB := hI (hB3 _ _ hB (by omega))
 have HX := hI ((hk3 w.heap.size (by omega)).trans hX)
 have HR := hI ((hk3 (w.heap.size + 1) (by omega)).trans hR)
 have hq6 : w3.cell? ⟨w.heap.size, 6, none⟩ = some (.slice A x.props.length c) := (cell_blk HX.out 6).trans rfl
 clear hZ3 hk3 hs3 hB3 hZ hB hX hR
 go_wp2_with fail
 go_loopw [29] (fun i wr => ∃ (k : Nat) (v : Value), k ≤ x.props.length ∧ i = .int .i64 k ∧ Hid (Below w.heap.size w wr) ∧ Hid (wr.heap[w.heap.size]? = some (.cells #[.string x.name, .bool x.absent, .bool x.has, .bool x.hasEnd, .int .i64 x.st, .int .i64 x.en, .slice A x.props.length c, .slice B x.comps.length c2] 42)) ∧
   Hid (wr.heap[w.heap.size + 1]? = some (.cells zC 91 (0, 0))) ∧ Hid (wr.heap[b]? = some (.cells (oC x v nilS) 91 (0, 0))) ∧
   Hid (oPr.R 168 wr w.heap.size (fun _ => True) v (x.props.take k))) (fun i _ => x.props.length - (RowKit.intOf i).toNat)
 case atStart => exact ⟨0, nilS, Nat.zero_le _, rfl, HB, HX, HR, HZ, hI (Kd.R_nil _ _ _ _ _)⟩
 case round =>
  clear HB HX HR HZ hq6
  obtain ⟨k, v, hk, rfl, HB, HX, HR, HZ, HV⟩ := hrel
  obtain ⟨wo, rfl⟩ : ∃ wo : World, wo = wr := ⟨_, rfl⟩
  have hW : Below w0.heap.size w0 wo := hb0.trans (HB.out.mono hb0.size)
  by_cases hlt : k < x.props.length
  ·obtain ⟨p, hpe⟩ : ∃ p, x.props[k]? = some p := ⟨_, List.getElem?_eq_getElem hlt⟩
   obtain ⟨ad, q, V, cv, rfl, htx, hlv, hrv, g0, g1, g2, g3, g4, g5, g6, g7⟩ := at_kPr (Kd.C_below hp hW) k p hpe
   have hpo : KpOk p := by have := hOk.out; cases this with | mk _ a b c d e f g => exact f p (List.mem_of_getElem? hpe)
   have hpe := hI hpe
   go_wp2_with fail
   have hbx := new_blk wo (.cells (iP p q V cv) 147)
   have hb1 : Below wo.heap.size wo (wo.alloc (.cells (iP p q V cv) 147)).drew := (below_alloc (Below.refl _ _) _).drew
   have htx := htx.below (below_alloc (Below.refl _ _) (.cells (iP p q V cv) 147))
   generalize hw2 : wo.alloc _ = w2 at hbx hb1 htx ⊢
   clear hw2 g0 g1 g2 g3 g4 g5 g6 g7
   have HO := hI hb1
   have HE := hI (show w2.drew.heap[wo.heap.size]? = _ from hbx)
   have HT : Hid (TxtAt w2.drew q p.text) := hI htx
   clear hbx hb1 htx hW
   refine start_ (n := 20) (S := fun W => W.cell? ⟨wo.heap.size, 0, none⟩ = some (.string p.name) ∧ W.cell? ⟨wo.heap.size, 1, none⟩ = some (.bool p.absent) ∧ W.cell? ⟨wo.heap.size, 2, none⟩ = some (.bool p.has) ∧ W.cell? ⟨wo.heap.size, 3, none⟩ = some (.bool p.hasEnd) ∧ W.cell? ⟨wo.heap.size, 4, none⟩ = some (.int .i64 p.st) ∧ W.cell? ⟨wo.heap.size, 5, none⟩ = some (.int .i64 p.en) ∧ W.cell? ⟨wo.heap.size, 6, none⟩ = some (.pointer q)) (ds := [19]) (bM 20 0) (by kernel_rfl) rfl (by kernel_rfl) ⟨(cell_blk HE.out 0).trans rfl, (cell_blk HE.out 1).trans rfl, (cell_blk HE.out 2).trans rfl, (cell_blk HE.out 3).trans rfl, (cell_blk HE.out 4).trans rfl, (cell_blk HE.out 5).trans rfl, (cell_blk HE.out 6).trans rfl⟩ (fun hHeld => ?_)
   generalize w2.drew = wk at HO HE HT hHeld ⊢
   refine pU 0 20 1 (some 33) rfl rfl (by kernel_rfl) rfl (fun _ => by go_simp; with_reducible rfl) (by simp only [sW]; rfl) ?_
   refine tA 1 20 3 (some 34) rfl rfl (by kernel_rfl) rfl (fun _ ⟨s0, s1, s2, s3, s4, s5, s6⟩ => by go_simp; with_reducible rfl) hHeld (by simp only [sW]; rfl) ?_
   refine pU 2 20 7 (some 35) rfl rfl (by kernel_rfl) rfl (fun _ => by go_simp; with_reducible rfl) (by simp only [sW]; rfl) ?_
   refine tA 3 20 15 (some 36) rfl rfl (by kernel_rfl) rfl (fun _ ⟨s0, s1, s2, s3, s4, s5, s6⟩ => by go_simp; with_reducible rfl) hHeld (by simp only [sW]; rfl) ?_
   refine pU 4 20 31 (some 37) rfl rfl (by kernel_rfl) rfl (fun _ => by go_simp; with_reducible rfl) (by simp only [sW]; rfl) ?_
   refine tA 5 20 63 (some 38) rfl rfl (by kernel_rfl) rfl (fun _ ⟨s0, s1, s2, s3, s4, s5, s6⟩ => by go_simp; with_reducible rfl) hHeld (by simp only [sW]; rfl) ?_
   refine pU 6 20 127 (some 39) rfl rfl (by kernel_rfl) rfl (fun _ => by go_simp; with_reducible rfl) (by simp only [sW]; rfl) ?_
   refine tA 7 20 255 (some 40) rfl rfl (by kernel_rfl) rfl (fun _ ⟨s0, s1, s2, s3, s4, s5, s6⟩ => by go_simp; with_reducible rfl) hHeld (by simp only [sW]; rfl) ?_
   refine pU 9 20 767 (some 42) rfl rfl (by kernel_rfl) rfl (fun _ => by go_simp; with_reducible rfl) (by simp only [sW]; rfl) ?_
   refine tA 10 20 1791 (some 43) rfl rfl (by kernel_rfl) rfl (fun _ ⟨s0, s1, s2, s3, s4, s5, s6⟩ => by go_simp; with_reducible rfl) hHeld (by simp only [sW]; rfl) ?_
   refine pU 11 20 3839 (some 44) rfl rfl (by kernel_rfl) rfl (fun _ => by go_simp; with_reducible rfl) (by simp only [sW]; rfl) ?_
   refine tA 12 20 7935 (some 45) rfl rfl (by kernel_rfl) rfl (fun _ ⟨s0, s1, s2, s3, s4, s5, s6⟩ => by go_simp; with_reducible rfl) hHeld (by simp only [sW]; rfl) ?_
   refine pU 14 20 24319 (some 47) rfl rfl (by kernel_rfl) rfl (fun _ => by go_simp; with_reducible rfl) (by simp only [sW]; rfl) ?_
   refine tA 15 20 57087 (some 48) rfl rfl (by kernel_rfl) rfl (fun _ ⟨s0, s1, s2, s3, s4, s5, s6⟩ => by go_simp; with_reducible rfl) hHeld (by simp only [sW]; rfl) ?_
   refine join_ (σ := Nat × Option Addr) 1 (bM 20 524287) (fun s => [(41, tMom p.has p.st), (46, tMom p.hasEnd p.en), (49, .pointer s.2), (50, .agg (oP p s.2 nilS)), (6, .pointer (some ⟨s.1, 0, none⟩))]) (fun s W => (W.heap[s.1]? = some (.cells zP 168 (0, 0)) ∧ wo.heap.size < s.1) ∧ TmNew W wo.heap.size (fun _ => True) s.2 p.text ∧ Below wo.heap.size wo W ∧ W.heap[wo.heap.size]? = some (.cells (iP p q V cv) 147 (0, 0))) ?_ ?_
   rotate_left
   ·intro hCont
    refine two_ (i := 8) (j := 18) (Ni := some 41) (Nj := some 6) (bM 20 57343) (bM 20 319231) rfl rfl rfl rfl (by kernel_rfl) (by decide) (by decide) (fun K hK => ?_) (fun K hK => ?_)
    ·skip
     refine goes_ Tryz.func71 (by kernel_rfl) rfl #[.bool p.has, .int .i64 p.st] (by rfl) rfl rfl (by (try simp only [List.map_toArray, List.map_cons, List.map_nil]); first | done | rfl | (simp only [List.length_drop, List.length_take]; rfl)) ?_; refine (moment' p.has p.st _ hpo.st).mono ?_
     rintro e wk ⟨rfl, hb⟩
     refine ⟨_, rfl, ?_⟩
     have HE := hI (below_blk hb HE.out)
     have HO := hI (HO.out.trans (hb.mono HO.out.size))
     have HT := hI (HT.out.below hb)
     try have HN := hI (And.intro (below_blk hb HN.out.1) HN.out.2)
     clear hb
     refine hK.out _ _ ⟨(cell_blk HE.out 0).trans rfl, (cell_blk HE.out 1).trans rfl, (cell_blk HE.out 2).trans rfl, (cell_blk HE.out 3).trans rfl, (cell_blk HE.out 4).trans rfl, (cell_blk HE.out 5).trans rfl, (cell_blk HE.out 6).trans rfl⟩ (fun hHeld => ?_)
     clear hK K
     refine norm_ (by show Act.put _ (some 41) _ = _; simp only [sW]; rfl) ?_
     refine two_ (i := 13) (j := 18) (Ni := some 46) (Nj := some 6) (bM 20 65535) (bM 20 319487) rfl rfl rfl rfl (by kernel_rfl) (by decide) (by decide) (fun K hK => ?_) (fun K hK => ?_)
     ·skip
      refine goes_ Tryz.func71 (by kernel_rfl) rfl #[.bool p.hasEnd, .int .i64 p.en] (by rfl) rfl rfl (by (try simp only [List.map_toArray, List.map_cons, List.map_nil]); first | done | rfl | (simp only [List.length_drop, List.length_take]; rfl)) ?_; refine (moment' p.hasEnd p.en _ hpo.en).mono ?_
      rintro e wk ⟨rfl, hb⟩
      refine ⟨_, rfl, ?_⟩
      have HE := hI (below_blk hb HE.out)
      have HO := hI (HO.out.trans (hb.mono HO.out.size))
      have HT := hI (HT.out.below hb)
      try have HN := hI (And.intro (below_blk hb HN.out.1) HN.out.2)
      clear hb
      refine hK.out _ _ ⟨(cell_blk HE.out 0).trans rfl, (cell_blk HE.out 1).trans rfl, (cell_blk HE.out 2).trans rfl, (cell_blk HE.out 3).trans rfl, (cell_blk HE.out 4).trans rfl, (cell_blk HE.out 5).trans rfl, (cell_blk HE.out 6).trans rfl⟩ (fun hHeld => ?_)
      clear hK K
      refine norm_ (by show Act.put _ (some 46) _ = _; simp only [sW]; rfl) ?_
      refine two_ (i := 16) (j := 18) (Ni := some 49) (Nj := some 6) (bM 20 131071) (bM 20 327679) rfl rfl rfl rfl (by kernel_rfl) (by decide) (by decide) (fun K hK => ?_) (fun K hK => ?_)
      ·skip
       refine goes_ Tryz.func72 (by kernel_rfl) rfl #[.pointer q] (by rfl) rfl rfl (by (try simp only [List.map_toArray, List.map_cons, List.map_nil]); first | done | rfl | (simp only [List.length_drop, List.length_take]; rfl)) ?_; refine (textOf q p.text _ HT.out).mono ?_
       rintro e wk ⟨tq, rfl, hQ, hb⟩
       refine ⟨_, rfl, ?_⟩
       have HQ : Hid (TmNew wk wo.heap.size (fun _ => True) tq p.text) := hI (TmNew.of hQ HO.out.size (fun _ _ => trivial))
       have HE := hI (below_blk hb HE.out)
       have HO := hI (HO.out.trans (hb.mono HO.out.size))
       try have HN := hI (And.intro (below_blk hb HN.out.1) HN.out.2)
       clear hb hQ
       refine hK.out _ _ ⟨(cell_blk HE.out 0).trans rfl, (cell_blk HE.out 1).trans rfl, (cell_blk HE.out 2).trans rfl, (cell_blk HE.out 3).trans rfl, (cell_blk HE.out 4).trans rfl, (cell_blk HE.out 5).trans rfl, (cell_blk HE.out 6).trans rfl⟩ (fun hHeld => ?_)
       clear hK K
       refine norm_ (by show Act.put _ (some 49) _ = _; simp only [sW]; rfl) ?_
       refine pU 17 20 262143 (some 50) rfl rfl (by kernel_rfl) rfl (fun _ => by go_simp; with_reducible rfl) (by simp only [sW]; rfl) ?_
       refine oN 18 20 524287 (some 6) rfl rfl (by kernel_rfl) (by decide) (fun K hK => ?_)
       refine value_ (v := ?_) (w1 := ?_) (by rfl) rfl ?_ ?_; rotate_left 2; (go_simp; first | rfl | (constructor <;> rfl))
       have hb := below_alloc (Below.refl wk.heap.size wk) (.cells zP 168 (0, 0))
       have hz := new_blk wk (.cells zP 168 (0, 0))
       have hlt := lt_blk HE.out
       generalize hwa : wk.alloc (.cells zP 168 (0, 0)) = wa at hz hb ⊢
       have HN := hI (And.intro hz hlt)
       have HE := hI (below_blk hb HE.out)
       have HO := hI (HO.out.trans (hb.mono HO.out.size))
       try have HT := hI (HT.out.below hb)
       try have HQ := hI (HQ.out.below hb)
       clear hz hb hlt hwa
       obtain ⟨wk, hwk⟩ : ∃ x, x = wa := ⟨wa, rfl⟩
       subst hwk
       refine hK.out _ _ ⟨(cell_blk HE.out 0).trans rfl, (cell_blk HE.out 1).trans rfl, (cell_blk HE.out 2).trans rfl, (cell_blk HE.out 3).trans rfl, (cell_blk HE.out 4).trans rfl, (cell_blk HE.out 5).trans rfl, (cell_blk HE.out 6).trans rfl⟩ (fun hHeld => ?_)
       clear hK K
       refine norm_ (by show Act.put _ (some 6) _ = _; simp only [sW]; rfl) ?_
       exact norm_ (by first | (simp only [putAll, sW]; done) | (simp only [putAll, sW]; rfl)) (hCont (_, _) _ ⟨HN.out, HQ.out, HO.out, HE.out⟩)
      ·skip
       refine value_ (v := ?_) (w1 := ?_) (by rfl) rfl ?_ ?_; rotate_left 2; (go_simp; first | rfl | (constructor <;> rfl))
       have hb := below_alloc (Below.refl wk.heap.size wk) (.cells zP 168 (0, 0))
       have hz := new_blk wk (.cells zP 168 (0, 0))
       have hlt := lt_blk HE.out
       generalize hwa : wk.alloc (.cells zP 168 (0, 0)) = wa at hz hb ⊢
       have HN := hI (And.intro hz hlt)
       have HE := hI (below_blk hb HE.out)
       have HO := hI (HO.out.trans (hb.mono HO.out.size))
       try have HT := hI (HT.out.below hb)
       try have HQ := hI (HQ.out.below hb)
       clear hz hb hlt hwa
       obtain ⟨wk, hwk⟩ : ∃ x, x = wa := ⟨wa, rfl⟩
       subst hwk
       refine hK.out _ _ ⟨(cell_blk HE.out 0).trans rfl, (cell_blk HE.out 1).trans rfl, (cell_blk HE.out 2).trans rfl, (cell_blk HE.out 3).trans rfl, (cell_blk HE.out 4).trans rfl, (cell_blk HE.out 5).trans rfl, (cell_blk HE.out 6).trans rfl⟩ (fun hHeld => ?_)
       clear hK K
       refine norm_ (by show Act.put _ (some 6) _ = _; simp only [sW]; rfl) ?_
       refine oN 16 20 393215 (some 49) rfl rfl (by kernel_rfl) (by decide) (fun K hK => ?_)
       refine goes_ Tryz.func72 (by kernel_rfl) rfl #[.pointer q] (by rfl) rfl rfl (by (try simp only [List.map_toArray, List.map_cons, List.map_nil]); first | done | rfl | (simp only [List.length_drop, List.length_take]; rfl)) ?_; refine (textOf q p.text _ HT.out).mono ?_
       rintro e wk ⟨tq, rfl, hQ, hb⟩
       refine ⟨_, rfl, ?_⟩
       have HQ : Hid (TmNew wk wo.heap.size (fun _ => True) tq p.text) := hI (TmNew.of hQ HO.out.size (fun _ _ => trivial))
       have HE := hI (below_blk hb HE.out)
       have HO := hI (HO.out.trans (hb.mono HO.out.size))
       try have HN := hI (And.intro (below_blk hb HN.out.1) HN.out.2)
       clear hb hQ
       refine hK.out _ _ ⟨(cell_blk HE.out 0).trans rfl, (cell_blk HE.out 1).trans rfl, (cell_blk HE.out 2).trans rfl, (cell_blk HE.out 3).trans rfl, (cell_blk HE.out 4).trans rfl, (cell_blk HE.out 5).trans rfl, (cell_blk HE.out 6).trans rfl⟩ (fun hHeld => ?_)
       clear hK K
       refine norm_ (by show Act.put _ (some 49) _ = _; simp only [sW]; rfl) ?_
       refine pU 17 20 524287 (some 50) rfl rfl (by kernel_rfl) rfl (fun _ => by go_simp; with_reducible rfl) (by simp only [sW]; rfl) ?_
       exact norm_ (by first | (simp only [putAll, sW]; done) | (simp only [putAll, sW]; rfl)) (hCont (_, _) _ ⟨HN.out, HQ.out, HO.out, HE.out⟩)
     ·skip
      refine value_ (v := ?_) (w1 := ?_) (by rfl) rfl ?_ ?_; rotate_left 2; (go_simp; first | rfl | (constructor <;> rfl))
      have hb := below_alloc (Below.refl wk.heap.size wk) (.cells zP 168 (0, 0))
      have hz := new_blk wk (.cells zP 168 (0, 0))
      have hlt := lt_blk HE.out
      generalize hwa : wk.alloc (.cells zP 168 (0, 0)) = wa at hz hb ⊢
      have HN := hI (And.intro hz hlt)
      have HE := hI (below_blk hb HE.out)
      have HO := hI (HO.out.trans (hb.mono HO.out.size))
      try have HT := hI (HT.out.below hb)
      try have HQ := hI (HQ.out.below hb)
      clear hz hb hlt hwa
      obtain ⟨wk, hwk⟩ : ∃ x, x = wa := ⟨wa, rfl⟩
      subst hwk
      refine hK.out _ _ ⟨(cell_blk HE.out 0).trans rfl, (cell_blk HE.out 1).trans rfl, (cell_blk HE.out 2).trans rfl, (cell_blk HE.out 3).trans rfl, (cell_blk HE.out 4).trans rfl, (cell_blk HE.out 5).trans rfl, (cell_blk HE.out 6).trans rfl⟩ (fun hHeld => ?_)
      clear hK K
      refine norm_ (by show Act.put _ (some 6) _ = _; simp only [sW]; rfl) ?_
      refine oN 13 20 327679 (some 46) rfl rfl (by kernel_rfl) (by decide) (fun K hK => ?_)
      refine goes_ Tryz.func71 (by kernel_rfl) rfl #[.bool p.hasEnd, .int .i64 p.en] (by rfl) rfl rfl (by (try simp only [List.map_toArray, List.map_cons, List.map_nil]); first | done | rfl | (simp only [List.length_drop, List.length_take]; rfl)) ?_; refine (moment' p.hasEnd p.en _ hpo.en).mono ?_
      rintro e wk ⟨rfl, hb⟩
      refine ⟨_, rfl, ?_⟩
      have HE := hI (below_blk hb HE.out)
      have HO := hI (HO.out.trans (hb.mono HO.out.size))
      have HT := hI (HT.out.below hb)
      try have HN := hI (And.intro (below_blk hb HN.out.1) HN.out.2)
      clear hb
      refine hK.out _ _ ⟨(cell_blk HE.out 0).trans rfl, (cell_blk HE.out 1).trans rfl, (cell_blk HE.out 2).trans rfl, (cell_blk HE.out 3).trans rfl, (cell_blk HE.out 4).trans rfl, (cell_blk HE.out 5).trans rfl, (cell_blk HE.out 6).trans rfl⟩ (fun hHeld => ?_)
      clear hK K
      refine norm_ (by show Act.put _ (some 46) _ = _; simp only [sW]; rfl) ?_
      refine oN 16 20 393215 (some 49) rfl rfl (by kernel_rfl) (by decide) (fun K hK => ?_)
      refine goes_ Tryz.func72 (by kernel_rfl) rfl #[.pointer q] (by rfl) rfl rfl (by (try simp only [List.map_toArray, List.map_cons, List.map_nil]); first | done | rfl | (simp only [List.length_drop, List.length_take]; rfl)) ?_; refine (textOf q p.text _ HT.out).mono ?_
      rintro e wk ⟨tq, rfl, hQ, hb⟩
      refine ⟨_, rfl, ?_⟩
      have HQ : Hid (TmNew wk wo.heap.size (fun _ => True) tq p.text) := hI (TmNew.of hQ HO.out.size (fun _ _ => trivial))
      have HE := hI (below_blk hb HE.out)
      have HO := hI (HO.out.trans (hb.mono HO.out.size))
      try have HN := hI (And.intro (below_blk hb HN.out.1) HN.out.2)
      clear hb hQ
      refine hK.out _ _ ⟨(cell_blk HE.out 0).trans rfl, (cell_blk HE.out 1).trans rfl, (cell_blk HE.out 2).trans rfl, (cell_blk HE.out 3).trans rfl, (cell_blk HE.out 4).trans rfl, (cell_blk HE.out 5).trans rfl, (cell_blk HE.out 6).trans rfl⟩ (fun hHeld => ?_)
      clear hK K
      refine norm_ (by show Act.put _ (some 49) _ = _; simp only [sW]; rfl) ?_
      refine pU 17 20 524287 (some 50) rfl rfl (by kernel_rfl) rfl (fun _ => by go_simp; with_reducible rfl) (by simp only [sW]; rfl) ?_
      exact norm_ (by first | (simp only [putAll, sW]; done) | (simp only [putAll, sW]; rfl)) (hCont (_, _) _ ⟨HN.out, HQ.out, HO.out, HE.out⟩)
    ·skip
     refine value_ (v := ?_) (w1 := ?_) (by rfl) rfl ?_ ?_; rotate_left 2; (go_simp; first | rfl | (constructor <;> rfl))
     have hb := below_alloc (Below.refl wk.heap.size wk) (.cells zP 168 (0, 0))
     have hz := new_blk wk (.cells zP 168 (0, 0))
     have hlt := lt_blk HE.out
     generalize hwa : wk.alloc (.cells zP 168 (0, 0)) = wa at hz hb ⊢
     have HN := hI (And.intro hz hlt)
     have HE := hI (below_blk hb HE.out)
     have HO := hI (HO.out.trans (hb.mono HO.out.size))
     try have HT := hI (HT.out.below hb)
     try have HQ := hI (HQ.out.below hb)
     clear hz hb hlt hwa
     obtain ⟨wk, hwk⟩ : ∃ x, x = wa := ⟨wa, rfl⟩
     subst hwk
     refine hK.out _ _ ⟨(cell_blk HE.out 0).trans rfl, (cell_blk HE.out 1).trans rfl, (cell_blk HE.out 2).trans rfl, (cell_blk HE.out 3).trans rfl, (cell_blk HE.out 4).trans rfl, (cell_blk HE.out 5).trans rfl, (cell_blk HE.out 6).trans rfl⟩ (fun hHeld => ?_)
     clear hK K
     refine norm_ (by show Act.put _ (some 6) _ = _; simp only [sW]; rfl) ?_
     refine oN 8 20 319487 (some 41) rfl rfl (by kernel_rfl) (by decide) (fun K hK => ?_)
     refine goes_ Tryz.func71 (by kernel_rfl) rfl #[.bool p.has, .int .i64 p.st] (by rfl) rfl rfl (by (try simp only [List.map_toArray, List.map_cons, List.map_nil]); first | done | rfl | (simp only [List.length_drop, List.length_take]; rfl)) ?_; refine (moment' p.has p.st _ hpo.st).mono ?_
     rintro e wk ⟨rfl, hb⟩
     refine ⟨_, rfl, ?_⟩
     have HE := hI (below_blk hb HE.out)
     have HO := hI (HO.out.trans (hb.mono HO.out.size))
     have HT := hI (HT.out.below hb)
     try have HN := hI (And.intro (below_blk hb HN.out.1) HN.out.2)
     clear hb
     refine hK.out _ _ ⟨(cell_blk HE.out 0).trans rfl, (cell_blk HE.out 1).trans rfl, (cell_blk HE.out 2).trans rfl, (cell_blk HE.out 3).trans rfl, (cell_blk HE.out 4).trans rfl, (cell_blk HE.out 5).trans rfl, (cell_blk HE.out 6).trans rfl⟩ (fun hHeld => ?_)
     clear hK K
     refine norm_ (by show Act.put _ (some 41) _ = _; simp only [sW]; rfl) ?_
     refine oN 13 20 327679 (some 46) rfl rfl (by kernel_rfl) (by decide) (fun K hK => ?_)
     refine goes_ Tryz.func71 (by kernel_rfl) rfl #[.bool p.hasEnd, .int .i64 p.en] (by rfl) rfl rfl (by (try simp only [List.map_toArray, List.map_cons, List.map_nil]); first | done | rfl | (simp only [List.length_drop, List.length_take]; rfl)) ?_; refine (moment' p.hasEnd p.en _ hpo.en).mono ?_
     rintro e wk ⟨rfl, hb⟩
     refine ⟨_, rfl, ?_⟩
     have HE := hI (below_blk hb HE.out)
     have HO := hI (HO.out.trans (hb.mono HO.out.size))
     have HT := hI (HT.out.below hb)
     try have HN := hI (And.intro (below_blk hb HN.out.1) HN.out.2)
     clear hb
     refine hK.out _ _ ⟨(cell_blk HE.out 0).trans rfl, (cell_blk HE.out 1).trans rfl, (cell_blk HE.out 2).trans rfl, (cell_blk HE.out 3).trans rfl, (cell_blk HE.out 4).trans rfl, (cell_blk HE.out 5).trans rfl, (cell_blk HE.out 6).trans rfl⟩ (fun hHeld => ?_)
     clear hK K
     refine norm_ (by show Act.put _ (some 46) _ = _; simp only [sW]; rfl) ?_
     refine oN 16 20 393215 (some 49) rfl rfl (by kernel_rfl) (by decide) (fun K hK => ?_)
     refine goes_ Tryz.func72 (by kernel_rfl) rfl #[.pointer q] (by rfl) rfl rfl (by (try simp only [List.map_toArray, List.map_cons, List.map_nil]); first | done | rfl | (simp only [List.length_drop, List.length_take]; rfl)) ?_; refine (textOf q p.text _ HT.out).mono ?_
     rintro e wk ⟨tq, rfl, hQ, hb⟩
     refine ⟨_, rfl, ?_⟩
     have HQ : Hid (TmNew wk wo.heap.size (fun _ => True) tq p.text) := hI (TmNew.of hQ HO.out.size (fun _ _ => trivial))
     have HE := hI (below_blk hb HE.out)
     have HO := hI (HO.out.trans (hb.mono HO.out.size))
     try have HN := hI (And.intro (below_blk hb HN.out.1) HN.out.2)
     clear hb hQ
     refine hK.out _ _ ⟨(cell_blk HE.out 0).trans rfl, (cell_blk HE.out 1).trans rfl, (cell_blk HE.out 2).trans rfl, (cell_blk HE.out 3).trans rfl, (cell_blk HE.out 4).trans rfl, (cell_blk HE.out 5).trans rfl, (cell_blk HE.out 6).trans rfl⟩ (fun hHeld => ?_)
     clear hK K
     refine norm_ (by show Act.put _ (some 49) _ = _; simp only [sW]; rfl) ?_
     refine pU 17 20 524287 (some 50) rfl rfl (by kernel_rfl) rfl (fun _ => by go_simp; with_reducible rfl) (by simp only [sW]; rfl) ?_
     exact norm_ (by first | (simp only [putAll, sW]; done) | (simp only [putAll, sW]; rfl)) (hCont (_, _) _ ⟨HN.out, HQ.out, HO.out, HE.out⟩)
   rintro ⟨d, tq⟩ w4 ⟨⟨hN, hdn⟩, hQ, hO, hE⟩
   refine norm_ (a' := ?_) ?_ ?_
   rotate_left
   ·first | (simp only [putAll, sW]; done) | (simp only [putAll, sW]; rfl)
   refine lA 19 20 1048575 none rfl rfl (by kernel_rfl) (by decide) (fun K hK => ?_)
   refine store_step 168 (.tmp 6) (.tmp 50) d 168 _ (.agg (oP p tq nilS)) (oP p tq nilS).toList (by rfl) rfl rfl rfl rfl rfl hN (by kernel_rfl) rfl rfl ?_
   rintro w5 hN5 hk5 hs5 hB5
   refine hK.out _ _ ?_
   clear hK K
   refine done_ (by kernel_rfl) ?_
   have HN := hI hN5
   have HO := hI (hB5 _ _ hO (by omega))
   have HE := hI ((hk5 wo.heap.size (by omega)).trans hE)
   have HQ : Hid (TmNew w5 wo.heap.size (fun _ => True) tq p.text) := hI (hQ.step (fun k hk hty => hk5 k (by rintro rfl; obtain ⟨cs, hc⟩ := hty; rw [hN] at hc; injection hc with hc; injection hc with _ hc; cases hc)))
   have hq7 : w5.cell? ⟨wo.heap.size, 7, none⟩ = some (.slice V p.params.length cv) := (cell_blk HE.out 7).trans rfl
   have hlp := hrv.2.1
   clear hN5 hO hE hQ hN hk5 hs5 hB5
   go_wp2_with fail
   go_loopw [54] (fun i wr => ∃ (j : Nat) (vv : Value), j ≤ p.params.length ∧ i = .int .i64 j ∧ Hid (Below wo.heap.size wo wr) ∧ Hid (wr.heap[wo.heap.size]? = some (.cells (iP p q V cv) 147 (0, 0))) ∧
     Hid (wr.heap[d]? = some (.cells (oP p tq vv) 168 (0, 0))) ∧ Hid (TmNew wr wo.heap.size (fun _ => True) tq p.text) ∧
     Hid (oPa.R 170 wr wo.heap.size (fun _ => True) vv (p.params.take j))) (fun i _ => p.params.length - (RowKit.intOf i).toNat)
   case atStart => exact ⟨0, nilS, Nat.zero_le _, rfl, HO, HE, HN, HQ, hI (Kd.R_nil _ _ _ _ _)⟩
   case round =>
    clear HO HE HN HQ hq7
    obtain ⟨j, vv, hj, rfl, HO, HE, HN, HQ, HU⟩ := hrel
    obtain ⟨wi, rfl⟩ : ∃ wi : World, wi = wr := ⟨_, rfl⟩
    by_cases hjt : j < p.params.length
    ·obtain ⟨y, hye⟩ : ∃ y, p.params[j]? = some y := ⟨_, List.getElem?_eq_getElem hjt⟩
     obtain ⟨ad2, q2, rfl, hty, g0, g1, g2⟩ := at_kPa (Kd.C_below hrv HO.out) j y hye
     have hye := hI hye
     go_wp2_with fail
     have hbx := new_blk wi (.cells #[.string y.name, .bool y.absent, .pointer q2] 158)
     have hb := (below_alloc (Below.refl wi.heap.size wi) (.cells #[.string y.name, .bool y.absent, .pointer q2] 158)).drew
     have hty := hty.below (below_alloc (Below.refl _ _) (.cells #[.string y.name, .bool y.absent, .pointer q2] 158))
     generalize hw2 : wi.alloc _ = w2 at hbx hb hty ⊢
     clear hw2 g0 g1 g2
     have HE := hI (below_blk hb HE.out)
     have HN := hI (below_blk hb HN.out)
     have HQ := hI (HQ.out.below hb)
     have HU := hI (Kd.R_below HU.out hb)
     have HO := hI (HO.out.trans (hb.mono HO.out.size))
     have HY := hI (show w2.drew.heap[wi.heap.size]? = _ from hbx)
     have HT : Hid (TxtAt w2.drew q2 y.text) := hI hty
     clear hbx hb hty
     refine start_ (n := 14) (S := fun W => W.cell? ⟨d, 11, none⟩ = some vv ∧ W.cell? ⟨wi.heap.size, 0, none⟩ = some (.string y.name) ∧ W.cell? ⟨wi.heap.size, 1, none⟩ = some (.bool y.absent) ∧ W.cell? ⟨wi.heap.size, 2, none⟩ = some (.pointer q2)) (ds := [13]) (bM 14 0) (by kernel_rfl) rfl (by kernel_rfl) ⟨(cell_blk HN.out 11).trans rfl, (cell_blk HY.out 0).trans rfl, (cell_blk HY.out 1).trans rfl, (cell_blk HY.out 2).trans rfl⟩ (fun hHeld => ?_)
     generalize w2.drew = wk at HO HE HN HQ HU HY HT hHeld ⊢
     refine pU 0 14 1 (some 58) rfl rfl (by kernel_rfl) rfl (fun _ => by go_simp; with_reducible rfl) (by simp only [sW]; rfl) ?_
     refine tA 1 14 3 (some 59) rfl rfl (by kernel_rfl) rfl (fun _ ⟨s0, s1, s2, s3⟩ => by go_simp; with_reducible rfl) hHeld (by simp only [sW]; rfl) ?_
     refine pU 2 14 7 (some 60) rfl rfl (by kernel_rfl) rfl (fun _ => by go_simp; with_reducible rfl) (by simp only [sW]; rfl) ?_
     refine tA 3 14 15 (some 61) rfl rfl (by kernel_rfl) rfl (fun _ ⟨s0, s1, s2, s3⟩ => by go_simp; with_reducible rfl) hHeld (by simp only [sW]; rfl) ?_
     refine pU 4 14 31 (some 62) rfl rfl (by kernel_rfl) rfl (fun _ => by go_simp; with_reducible rfl) (by simp only [sW]; rfl) ?_
     refine tA 5 14 63 (some 63) rfl rfl (by kernel_rfl) rfl (fun _ ⟨s0, s1, s2, s3⟩ => by go_simp; with_reducible rfl) hHeld (by simp only [sW]; rfl) ?_
     refine pU 6 14 127 (some 64) rfl rfl (by kernel_rfl) rfl (fun _ => by go_simp; with_reducible rfl) (by simp only [sW]; rfl) ?_
     refine tA 7 14 255 (some 65) rfl rfl (by kernel_rfl) rfl (fun _ ⟨s0, s1, s2, s3⟩ => by go_simp; with_reducible rfl) hHeld (by simp only [sW]; rfl) ?_
     refine oN 8 14 511 (some 66) rfl rfl (by kernel_rfl) (by decide) (fun K hK => ?_)
     refine goes_ Tryz.func72 (by kernel_rfl) rfl #[.pointer q2] (by rfl) rfl rfl (by (try simp only [List.map_toArray, List.map_cons, List.map_nil]); first | done | rfl | (simp only [List.length_drop, List.length_take]; rfl)) ?_; refine (textOf q2 y.text _ HT.out).mono ?_
     rintro e w7 ⟨tq2, rfl, hQ2, hb⟩
     refine ⟨_, rfl, ?_⟩
     have hQ2 : TmNew w7 wo.heap.size (fun k => some k ≠ vv.ownBlock) tq2 y.text := TmNew.of hQ2 HO.out.size (fun k hk hv => by have := (R_typed HU.out k hv.symm).2.1; omega)
     have HE := hI (below_blk hb HE.out)
     have HN := hI (below_blk hb HN.out)
     have HQ := hI (HQ.out.below hb)
     have HU := hI (Kd.R_below HU.out hb)
     have HO := hI (HO.out.trans (hb.mono HO.out.size))
     have HY := hI (below_blk hb HY.out)
     clear hb HT
     refine hK.out _ _ ⟨(cell_blk HN.out 11).trans rfl, (cell_blk HY.out 0).trans rfl, (cell_blk HY.out 1).trans rfl, (cell_blk HY.out 2).trans rfl⟩ (fun hHeld => ?_)
     clear hK K
     refine norm_ (by show Act.put _ (some 66) _ = _; simp only [sW]; rfl) ?_
     refine pU 9 14 1023 (some 67) rfl rfl (by kernel_rfl) rfl (fun _ => by go_simp; with_reducible rfl) (by simp only [sW]; rfl) ?_
     refine oN 10 14 2047 (some 68) rfl rfl (by kernel_rfl) (by decide) (fun K hK => ?_)
     refine value_ (v := ?_) (w1 := ?_) (by rfl) rfl ?_ ?_; rotate_left 2; (go_simp; first | rfl | (constructor <;> rfl))
     refine hK.out _ _ ⟨(cell_blk (old_blk HN.out _) 11).trans rfl, (cell_blk (old_blk HY.out _) 0).trans rfl, (cell_blk (old_blk HY.out _) 1).trans rfl, (cell_blk (old_blk HY.out _) 2).trans rfl⟩ (fun hHeld => ?_)
     clear hK K
     refine norm_ (by show Act.put _ (some 68) _ = _; simp only [sW]; rfl) ?_
     refine oN 11 14 4095 (some 69) rfl rfl (by kernel_rfl) (by decide) (fun K hK => ?_)
     refine Kd.R_append_step oPa (w0 := wo) wo.heap.size (by rfl) _ _ 166 170 (.agg #[.string { data := #[] }, .bool false, .pointer none]) 32 rfl Tryz.underlying166 info_pf rfl (by decide) (by decide) vv (p.params.take j) y [.string y.name, .bool y.absent, .pointer tq2] (fun _ => True) (fun k => some k ≠ vv.ownBlock) (by rfl) (by rfl) (oPa_mkM hQ2) (fun k hk => ⟨trivial, hk⟩) (fun _ _ => trivial) HU.out HO.out HO.out.size ?_ ?_
     ·have h1 := hpo.len
      have h3 : (p.params.take j).length ≤ j := List.length_take_le _ _
      omega
     intro v1 w8 hR8 hB8 hg8 hat8
     obtain ⟨A1, c1, hv1⟩ := Kd.R_slice hR8
     generalize (p.params.take j ++ [y]).length = nn at hv1
     subst hv1
     have hs8 := hg8.size
     have hN8 := (hg8.block _ (lt_blk HN.out) (fun e => Kd.R_ne HU.out HN.out (by decide) e)).trans HN.out
     have hE8 := (hg8.block _ (lt_blk HE.out) (fun e => Kd.R_ne HU.out HE.out (by decide) e)).trans HE.out
     have hY8 := (hg8.block _ (lt_blk HY.out) (fun e => Kd.R_ne HU.out HY.out (by decide) e)).trans HY.out
     have hQ8 : TmNew w8 wo.heap.size (fun _ => True) tq p.text := HQ.out.step (fun k hk hty => hg8.block k hk (fun e => by obtain ⟨cs, hc⟩ := hty; exact Kd.R_ne HU.out hc (by decide) e))
     refine hK.out _ _ ⟨(cell_blk hN8 11).trans rfl, (cell_blk hY8 0).trans rfl, (cell_blk hY8 1).trans rfl, (cell_blk hY8 2).trans rfl⟩ (fun hHeld => ?_)
     clear hK K
     refine norm_ (by show Act.put _ (some 69) _ = _; simp only [sW]; rfl) ?_
     refine pU 12 14 8191 (some 70) rfl rfl (by kernel_rfl) rfl (fun _ => by go_simp; with_reducible rfl) (by simp only [sW]; rfl) ?_
     refine lA 13 14 16383 none rfl rfl (by kernel_rfl) (by decide) (fun K hK => ?_)
     have cO := (cell_blk hN8 11).trans rfl
     have fO := frozen_blk hN8 11 (by omega)
     refine skip_ (w1 := ?_) (by rfl) rfl ?_ ?_; rotate_left; (go_simp; first | rfl | done)
     refine hK.out _ _ ?_
     clear hK K
     refine done_ (by kernel_rfl) ?_
     have hB9 := hB8.setCell (p := ⟨d, 11, none⟩) (by show wo.heap.size ≤ d; omega) (.slice A1 nn c1)
     have hN9 := set_blk hN8 11 (.slice A1 nn c1)
     have hE9 := (Below.heap_setCell w8 ⟨d, 11, none⟩ (.slice A1 nn c1) wo.heap.size (by show wo.heap.size ≠ d; omega)).trans hE8
     have hR9 := Kd.R_set hR8 hN8 (by decide) 11 (.slice A1 nn c1)
     have hQ9 : TmNew (w8.setCell ⟨d, 11, none⟩ (.slice A1 nn c1)) wo.heap.size (fun _ => True) tq p.text := hQ8.step (fun k hk hty => Below.heap_setCell w8 ⟨d, 11, none⟩ (.slice A1 nn c1) k (by rintro rfl; obtain ⟨cs, hc⟩ := hty; have hc2 := hc.symm.trans hN8; simp at hc2))
     rw [← take_snoc' _ _ _ hye.out] at hR9
     generalize hw6 : w8.setCell _ _ = w6 at hB9 hN9 hE9 hR9 hQ9 ⊢
     have J1 := hI hB9
     have J2 := hI hE9
     have J3 := hI hN9
     have J4 := hI hQ9
     have J5 := hI hR9
     clear hw6 hB9 hN9 hE9 hR9 hQ9 hR8 hB8 hg8 hat8 hN8 hE8 hY8 hQ8 HO HE HN HQ HU HY cO fO
     go_wp2
     go_roundw
     case rel => exact ⟨j + 1, (.slice A1 nn c1), by omega, by go_num, J1, J2, J3, J4, J5⟩
     case measure => simp [RowKit.intOf]; omega
    ·obtain rfl : j = p.params.length := by omega
     have hU := HU.out
     rw [List.take_length] at hU
     have hww : w.heap.size ≤ wo.heap.size := HB.out.size
     have hMp : oPr.M wi w.heap.size (fun k => wo.heap.size ≤ k) p (oP p tq vv).toList := oPr.M_lower hww (oPr.M_mono (fun k hk => hk.2.1) (oPr.M_bound (oPr_mkM HQ.out hU)))
     have hVi := Kd.R_below HV.out HO.out
     have hBi := HB.out.trans (HO.out.mono HB.out.size)
     have hvlt : ∀ k, wo.heap.size ≤ k → some k ≠ v.ownBlock := fun k hk e => by have := (R_typed HV.out k e.symm).2.1; omega
     have HX := hI (below_blk HO.out HX.out)
     have HR := hI (below_blk HO.out HR.out)
     have HZ := hI (below_blk HO.out HZ.out)
     have HM := hI hMp
     have HV := hI hVi
     have HB := hI hBi
     have HL := hI hvlt
     have cz : wi.cell? ⟨b, 10, none⟩ = some v := (cell_blk HZ.out 10).trans rfl
     have d0 := (cell_blk HN.out 0).trans rfl
     have d1 := (cell_blk HN.out 1).trans rfl
     have d2 := (cell_blk HN.out 2).trans rfl
     have d3 := (cell_blk HN.out 3).trans rfl
     have d4 := (cell_blk HN.out 4).trans rfl
     have d5 := (cell_blk HN.out 5).trans rfl
     have d6 := (cell_blk HN.out 6).trans rfl
     have d7 := (cell_blk HN.out 7).trans rfl
     have d8 := (cell_blk HN.out 8).trans rfl
     have d9 := (cell_blk HN.out 9).trans rfl
     have d10 := (cell_blk HN.out 10).trans rfl
     have d11 := (cell_blk HN.out 11).trans rfl
     clear hU hMp hVi hBi hvlt HU HQ HO HE HN
     have hlen : ((x.props.take k).length + 1) * 136 ≤ 140737488355328 := by
      have h3 : (x.props.take k).length ≤ k := List.length_take_le _ _
      have h4 : x.props.length ≤ 10 := by have := hOk.out; cases this with | mk _ a b c d e f g => exact d
      omega
     go_wp2_with ((with_reducible refine gate_builtin (b := .append) (xs := #[.tmp 73, .tmp 75]) rfl ?_); at_builtin; refine Kd.R_append oPr (w0 := w) w.heap.size rfl (.tmp 73) (.tmp 75) 88 168 (.agg zP) 136 rfl Tryz.underlying88 info_prf rfl (by decide) (by decide) v (x.props.take k) p (oP p tq vv).toList (fun _ => True) (fun k => wo.heap.size ≤ k) rfl rfl HM.out (fun k hk => ⟨trivial, HL.out k hk⟩) (fun _ _ => trivial) HV.out HB.out HB.out.size hlen ?_)
     intro v1 w7 hR7 hB7 hg7 hat7
     obtain ⟨A1, c1, hv1⟩ := Kd.R_slice hR7
     generalize (x.props.take k ++ [p]).length = nn at hv1
     subst hv1
     have hZ7 := (hg7.block _ (lt_blk HZ.out) (fun e => Kd.R_ne HV.out HZ.out (by decide) e)).trans HZ.out
     have hX7 := (hg7.block _ (lt_blk HX.out) (fun e => Kd.R_ne HV.out HX.out (by decide) e)).trans HX.out
     have hR07 := (hg7.block _ (lt_blk HR.out) (fun e => Kd.R_ne HV.out HR.out (by decide) e)).trans HR.out
     have cO := (cell_blk hZ7 10).trans rfl
     have fO := frozen_blk hZ7 10 (by omega)
     have hbw : w.heap.size + 1 < b := hbz
     have hB9 := hB7.setCell (p := ⟨b, 10, none⟩) (by show w.heap.size ≤ b; omega) (.slice A1 nn c1)
     have hZ9 := set_blk hZ7 10 (.slice A1 nn c1)
     have hX9 := (Below.heap_setCell w7 ⟨b, 10, none⟩ (.slice A1 nn c1) w.heap.size (by show w.heap.size ≠ b; omega)).trans hX7
     have hR09 := (Below.heap_setCell w7 ⟨b, 10, none⟩ (.slice A1 nn c1) (w.heap.size + 1) (by show w.heap.size + 1 ≠ b; omega)).trans hR07
     have hR9 := Kd.R_set hR7 hZ7 (by decide) 10 (.slice A1 nn c1)
     rw [← take_snoc' _ _ _ hpe.out] at hR9
     have J1 := hI hB9
     have J2 := hI hX9
     have J3 := hI hR09
     have J4 := hI hZ9
     have J5 := hI hR9
     clear hB9 hX9 hR09 hZ9 hR9 hR7 hB7 hg7 hat7 hZ7 hX7 hR07 HX HR HZ HM HV HB HL cz d0 d1 d2 d3 d4 d5 d6 d7 d8 d9 d10 d11 hlen hbw
     go_wp2_with fail
     exact ⟨⟨k + 1, (.slice A1 nn c1), by omega, by go_num, J1, J2, J3, J4, J5⟩, by simp [RowKit.intOf]; omega⟩
  ·obtain rfl : k = x.props.length := by omega
   have q0 : wo.cell? ⟨w.heap.size, 7, none⟩ = some (.slice B x.comps.length c2) := (cell_blk HX.out 7).trans rfl
   have hV := HV.out
   rw [List.take_length] at hV
   have HV : Hid (oPr.R 168 wo w.heap.size (fun k => k < wo.heap.size) v x.props) := hI (Kd.R_mono (Kd.R_bound hV) (fun k hk => hk.2.2.1))
   have hbo : b < wo.heap.size := lt_blk HZ.out
   clear hV
   go_wp2_with fail
   go_loopw [82] (fun i wr => ∃ (j : Nat) (u : Value), j ≤ x.comps.length ∧ i = .int .i64 j ∧ Hid (Below w.heap.size w wr) ∧ wo.heap.size ≤ wr.heap.size ∧
     Hid (wr.heap[w.heap.size + 1]? = some (.cells zC 91 (0, 0))) ∧ Hid (wr.heap[b]? = some (.cells (oC x v u) 91 (0, 0))) ∧
     Hid (oPr.R 168 wr w.heap.size (fun k => k < wo.heap.size) v x.props) ∧
     Hid (oCo.R 91 wr wo.heap.size (fun k => wo.heap.size ≤ k) u (x.comps.take j))) (fun i _ => x.comps.length - (RowKit.intOf i).toNat)
   case atStart => exact ⟨0, nilS, Nat.zero_le _, rfl, HB, Nat.le_refl _, HR, HZ, HV, hI (Kd.R_nil _ _ _ _ _)⟩
   case round =>
    have hww : w.heap.size + 1 < wo.heap.size := by omega
    clear q0 HB HR HZ HV HX
    obtain ⟨j, u, hj, rfl, HB, hsw, HR, HZ, HV, HU⟩ := hrel
    obtain ⟨wi, rfl⟩ : ∃ wi : World, wi = wr := ⟨_, rfl⟩
    have hW : Below w0.heap.size w0 wi := hb0.trans (HB.out.mono hb0.size)
    by_cases hjt : j < x.comps.length
    ·obtain ⟨y, hye⟩ : ∃ y, x.comps[j]? = some y := ⟨_, List.getElem?_eq_getElem hjt⟩
     have hym := List.mem_of_getElem? hye
     obtain ⟨ad, V, cv, V2, cv2, rfl, hlv, hrv, hlv2, hrv2, g0, g1, g2, g3, g4, g5, g6, g7⟩ := at_kCo hkk j y hye
     have g0 := pw_cell_below hW g0
     have g1 := pw_cell_below hW g1
     have g2 := pw_cell_below hW g2
     have g3 := pw_cell_below hW g3
     have g4 := pw_cell_below hW g4
     have g5 := pw_cell_below hW g5
     have g6 := pw_cell_below hW g6
     have g7 := pw_cell_below hW g7
     have hye := hI hye
     go_wp2_with fail
     have hbx := new_blk wi (.cells #[.string y.name, .bool y.absent, .bool y.has, .bool y.hasEnd, .int .i64 y.st, .int .i64 y.en, .slice V y.props.length cv, .slice V2 y.comps.length cv2] 42)
     have hb1 : Below wi.heap.size wi (wi.alloc (.cells #[.string y.name, .bool y.absent, .bool y.has, .bool y.hasEnd, .int .i64 y.st, .int .i64 y.en, .slice V y.props.length cv, .slice V2 y.comps.length cv2] 42)).drew := (below_alloc (Below.refl _ _) _).drew
     generalize hw2 : wi.alloc _ = w2 at hbx hb1 ⊢
     clear hw2 g0 g1 g2 g3 g4 g5 g6 g7
     have HR := hI (below_blk hb1 HR.out)
     have HZ := hI (below_blk hb1 HZ.out)
     have HV := hI (Kd.R_below HV.out hb1)
     have HU := hI (Kd.R_below HU.out hb1)
     have HB := hI (HB.out.trans (hb1.mono HB.out.size))
     have HW := hI (hW.trans (hb1.mono hW.size))
     have hsw := Nat.le_trans hsw hb1.size
     have HE := hI (show w2.drew.heap[wi.heap.size]? = _ from hbx)
     clear hbx hb1 hW
     refine start_ (n := 8) (S := fun W => W.cell? ⟨b, 11, none⟩ = some u ∧ W.cell? ⟨wi.heap.size, 0, none⟩ = some (.string y.name) ∧ W.cell? ⟨wi.heap.size, 1, none⟩ = some (.bool y.absent) ∧ W.cell? ⟨wi.heap.size, 2, none⟩ = some (.bool y.has) ∧ W.cell? ⟨wi.heap.size, 3, none⟩ = some (.bool y.hasEnd) ∧ W.cell? ⟨wi.heap.size, 4, none⟩ = some (.int .i64 y.st) ∧ W.cell? ⟨wi.heap.size, 5, none⟩ = some (.int .i64 y.en) ∧ W.cell? ⟨wi.heap.size, 6, none⟩ = some (.slice V y.props.length cv) ∧ W.cell? ⟨wi.heap.size, 7, none⟩ = some (.slice V2 y.comps.length cv2)) (ds := [7]) (bM 8 0) (by kernel_rfl) rfl (by kernel_rfl) ⟨(cell_blk HZ.out 11).trans rfl, (cell_blk HE.out 0).trans rfl, (cell_blk HE.out 1).trans rfl, (cell_blk HE.out 2).trans rfl, (cell_blk HE.out 3).trans rfl, (cell_blk HE.out 4).trans rfl, (cell_blk HE.out 5).trans rfl, (cell_blk HE.out 6).trans rfl, (cell_blk HE.out 7).trans rfl⟩ (fun hHeld => ?_)
     generalize w2.drew = w3 at HR HZ HV HU HB HW HE hsw hHeld ⊢
     refine pU 0 8 1 (some 86) rfl rfl (by kernel_rfl) rfl (fun _ => by go_simp; with_reducible rfl) (by simp only [sW]; rfl) ?_
     refine tA 1 8 3 (some 87) rfl rfl (by kernel_rfl) rfl (fun _ ⟨s0, s1, s2, s3, s4, s5, s6, s7, s8⟩ => by go_simp; with_reducible rfl) hHeld (by simp only [sW]; rfl) ?_
     refine tA 2 8 7 (some 88) rfl rfl (by kernel_rfl) rfl (fun _ ⟨s0, s1, s2, s3, s4, s5, s6, s7, s8⟩ => by go_simp; with_reducible rfl) hHeld (by simp only [sW]; rfl) ?_
     refine oN 3 8 15 (some 89) rfl rfl (by kernel_rfl) (by decide) (fun K hK => ?_)
     refine goes_ Tryz.func39 (by kernel_rfl) rfl #[.agg #[.string y.name, .bool y.absent, .bool y.has, .bool y.hasEnd, .int .i64 y.st, .int .i64 y.en, .slice V y.props.length cv, .slice V2 y.comps.length cv2]] (by rfl) rfl rfl (by (try simp only [List.map_toArray, List.map_cons, List.map_nil]); first | done | rfl | (simp only [List.length_drop, List.length_take]; rfl)) ?_; refine (ih y hym V V2 cv cv2 w0 _ HW.out hrv hrv2).mono ?_
     rintro e w4 ⟨v', v2', rfl, hv', hv2', hb4⟩
     refine ⟨_, rfl, ?_⟩
     have hMy : oCo.M w4 wo.heap.size (fun k => w3.heap.size ≤ k) y (oC y v' v2').toList := oCo.M_lower hsw (oCo.M_mono (fun k hk => hk.2.1) (oCo.M_bound (oCo_mkM hv' hv2')))
     have hul : ∀ k, w3.heap.size ≤ k → some k ≠ u.ownBlock := fun k hk e => by have := (R_typed HU.out k e.symm).2.1; omega
     have HM := hI hMy
     have HL := hI hul
     have HK : Hid (wo.heap.size ≤ w3.heap.size) := hI hsw
     have HR := hI (below_blk hb4 HR.out)
     have HZ := hI (below_blk hb4 HZ.out)
     have HV := hI (Kd.R_below HV.out hb4)
     have HU := hI (Kd.R_below HU.out hb4)
     have HB := hI (HB.out.trans (hb4.mono HB.out.size))
     have HE := hI (below_blk hb4 HE.out)
     have hsw := Nat.le_trans hsw hb4.size
     clear hv' hv2' hb4 HW hMy hul
     refine hK.out _ _ ⟨(cell_blk HZ.out 11).trans rfl, (cell_blk HE.out 0).trans rfl, (cell_blk HE.out 1).trans rfl, (cell_blk HE.out 2).trans rfl, (cell_blk HE.out 3).trans rfl, (cell_blk HE.out 4).trans rfl, (cell_blk HE.out 5).trans rfl, (cell_blk HE.out 6).trans rfl, (cell_blk HE.out 7).trans rfl⟩ (fun hHeld => ?_)
     clear hK K
     refine norm_ (by show Act.put _ (some 89) _ = _; simp only [sW]; rfl) ?_
     refine oN 4 8 31 (some 90) rfl rfl (by kernel_rfl) (by decide) (fun K hK => ?_)
     refine value_ (v := ?_) (w1 := ?_) (by rfl) rfl ?_ ?_; rotate_left 2; (go_simp; first | rfl | (constructor <;> rfl))
     refine hK.out _ _ ⟨(cell_blk (old_blk HZ.out _) 11).trans rfl, (cell_blk (old_blk HE.out _) 0).trans rfl, (cell_blk (old_blk HE.out _) 1).trans rfl, (cell_blk (old_blk HE.out _) 2).trans rfl, (cell_blk (old_blk HE.out _) 3).trans rfl, (cell_blk (old_blk HE.out _) 4).trans rfl, (cell_blk (old_blk HE.out _) 5).trans rfl, (cell_blk (old_blk HE.out _) 6).trans rfl, (cell_blk (old_blk HE.out _) 7).trans rfl⟩ (fun hHeld => ?_)
     clear hK K
     refine norm_ (by show Act.put _ (some 90) _ = _; simp only [sW]; rfl) ?_
     refine oN 5 8 63 (some 91) rfl rfl (by kernel_rfl) (by decide) (fun K hK => ?_)
     refine Kd.R_append_step oCo (w0 := w4) wo.heap.size (by rfl) _ _ 89 91 (.agg zC) 152 rfl Tryz.underlying89 info_cf rfl (by decide) (by decide) u (x.comps.take j) y (oC y v' v2').toList (fun k => wo.heap.size ≤ k) (fun k => w3.heap.size ≤ k) (by rfl) (by rfl) HM.out (fun k hk => ⟨Nat.le_trans HK.out hk, HL.out k hk⟩) (fun k hk => Nat.le_trans hsw hk) HU.out (Below.refl _ _) hsw ?_ ?_
     ·have h3 : (x.comps.take j).length ≤ j := List.length_take_le _ _
      have h4 : x.comps.length ≤ 40 := by have := hOk.out; cases this with | mk _ a b c d e f g => exact e
      omega
     intro v1 w5 hR5 hB5 hg5 hat5
     obtain ⟨A1, c1, hv1⟩ := Kd.R_slice hR5
     generalize (x.comps.take j ++ [y]).length = nn at hv1
     subst hv1
     have hs5 := hg5.size
     have hub : ∀ k, u.ownBlock = some k → wo.heap.size ≤ k := fun k hk => HU.out.1 k hk
     have hZ5 := (hg5.block b (by omega) (fun e => by have := hub b e.symm; omega)).trans HZ.out
     have hR05 := (hg5.block (w.heap.size + 1) (by omega) (fun e => by have := hub _ e.symm; omega)).trans HR.out
     have hE5 := (hg5.block _ (lt_blk HE.out) (fun e => Kd.R_ne HU.out HE.out (by decide) e)).trans HE.out
     have hV5 : oPr.R 168 w5 w.heap.size (fun k => k < wo.heap.size) v x.props := Kd.R_step HV.out (fun k hk hlt => hg5.block k hlt (fun e => by have := hub k e.symm; omega))
     have hBw : Below w.heap.size w w5 := HB.out.trans (hB5.mono (by omega))
     refine hK.out _ _ ⟨(cell_blk hZ5 11).trans rfl, (cell_blk hE5 0).trans rfl, (cell_blk hE5 1).trans rfl, (cell_blk hE5 2).trans rfl, (cell_blk hE5 3).trans rfl, (cell_blk hE5 4).trans rfl, (cell_blk hE5 5).trans rfl, (cell_blk hE5 6).trans rfl, (cell_blk hE5 7).trans rfl⟩ (fun hHeld => ?_)
     clear hK K
     refine norm_ (by show Act.put _ (some 91) _ = _; simp only [sW]; rfl) ?_
     refine pU 6 8 127 (some 92) rfl rfl (by kernel_rfl) rfl (fun _ => by go_simp; with_reducible rfl) (by simp only [sW]; rfl) ?_
     refine lA 7 8 255 none rfl rfl (by kernel_rfl) (by decide) (fun K hK => ?_)
     have cO := (cell_blk hZ5 11).trans rfl
     have fO := frozen_blk hZ5 11 (by omega)
     refine skip_ (w1 := ?_) (by rfl) rfl ?_ ?_; rotate_left; (go_simp; first | rfl | done)
     refine hK.out _ _ ?_
     clear hK K
     refine done_ (by kernel_rfl) ?_
     have hB9 := hBw.setCell (p := ⟨b, 11, none⟩) (by show w.heap.size ≤ b; omega) (.slice A1 nn c1)
     have hZ9 := set_blk hZ5 11 (.slice A1 nn c1)
     have hR09 := (Below.heap_setCell w5 ⟨b, 11, none⟩ (.slice A1 nn c1) (w.heap.size + 1) (by show w.heap.size + 1 ≠ b; omega)).trans hR05
     have hV9 := Kd.R_set hV5 hZ5 (by decide) 11 (.slice A1 nn c1)
     have hU9 := Kd.R_far (p := ⟨b, 11, none⟩) hR5 (fun k hk => by show k ≠ b; omega) (.slice A1 nn c1)
     have hs9 : wo.heap.size ≤ (w5.setCell ⟨b, 11, none⟩ (.slice A1 nn c1)).heap.size := by simp [World.setCell]; omega
     rw [← take_snoc' _ _ _ hye.out] at hU9
     generalize hw6 : w5.setCell _ _ = w6 at hB9 hZ9 hR09 hV9 hU9 hs9 ⊢
     have J1 := hI hB9
     have J2 := hI hR09
     have J3 := hI hZ9
     have J4 := hI hV9
     have J5 := hI hU9
     clear hw6 hB9 hZ9 hR09 hV9 hU9 hBw hV5 hE5 hR05 hZ5 hub hg5 hB5 hR5 hat5 HR HZ HV HU HB HE HM HL HK cO fO
     go_wp2
     go_roundw
     case rel => exact ⟨j + 1, (.slice A1 nn c1), by omega, by go_num, J1, hs9, J2, J3, J4, J5⟩
     case measure => simp [RowKit.intOf]; omega
    ·obtain rfl : j = x.comps.length := by omega
     have hU := HU.out
     rw [List.take_length] at hU
     have hVf : oPr.R 168 wi w.heap.size (fun k => k ≠ w.heap.size + 1) v x.props := Kd.R_mono (Kd.R_types HV.out HR.out (by decide)) (fun k hk => hk.2)
     have hUf : oCo.R 91 wi w.heap.size (fun k => wo.heap.size ≤ k) u x.comps := Kd.R_lower hU (by omega)
     have fR : ∀ o, wi.frozen? ⟨w.heap.size + 1, o, none⟩ = false := fun o => frozen_blk HR.out o (by omega)
     have z0 := (cell_blk HZ.out 0).trans rfl
     have r0 := (cell_blk HR.out 0).trans rfl
     have z1 := (cell_blk HZ.out 1).trans rfl
     have r1 := (cell_blk HR.out 1).trans rfl
     have z2 := (cell_blk HZ.out 2).trans rfl
     have r2 := (cell_blk HR.out 2).trans rfl
     have z3 := (cell_blk HZ.out 3).trans rfl
     have r3 := (cell_blk HR.out 3).trans rfl
     have z4 := (cell_blk HZ.out 4).trans rfl
     have r4 := (cell_blk HR.out 4).trans rfl
     have z5 := (cell_blk HZ.out 5).trans rfl
     have r5 := (cell_blk HR.out 5).trans rfl
     have z6 := (cell_blk HZ.out 6).trans rfl
     have r6 := (cell_blk HR.out 6).trans rfl
     have z7 := (cell_blk HZ.out 7).trans rfl
     have r7 := (cell_blk HR.out 7).trans rfl
     have z8 := (cell_blk HZ.out 8).trans rfl
     have r8 := (cell_blk HR.out 8).trans rfl
     have z9 := (cell_blk HZ.out 9).trans rfl
     have r9 := (cell_blk HR.out 9).trans rfl
     have z10 := (cell_blk HZ.out 10).trans rfl
     have r10 := (cell_blk HR.out 10).trans rfl
     have z11 := (cell_blk HZ.out 11).trans rfl
     have r11 := (cell_blk HR.out 11).trans rfl
     obtain ⟨A1, c1, hv1⟩ := Kd.R_slice hVf
     obtain ⟨A2, c4, hv2⟩ := Kd.R_slice hUf
     generalize hn1 : x.props.length = n1 at hv1
     generalize hn2 : x.comps.length = n2 at hv2
     clear hn1 hn2
     subst hv1 hv2
     have HVf := hI hVf
     have HUf := hI hUf
     clear hVf hUf hU HU HV
     go_wp2_with ((with_reducible refine gate_ (.store 91 (.tmp 2) (.tmp 94)) rfl ?_); refine store_plain 91 (.tmp 2) (.tmp 94) (w.heap.size + 1) 91 zC (.agg (oC x (.slice A1 n1 c1) (.slice A2 n2 c4))) (oC x (.slice A1 n1 c1) (.slice A2 n2 c4)).toList rfl rfl rfl rfl rfl rfl HR.out (by kernel_rfl) rfl rfl ?_)
     intro wz hT hfar hsz hBz
     have hB := hBz _ _ HB.out (by omega)
     clear HZ HR HB hBz fR z0 r0 z1 r1 z2 r2 z3 r3 z4 r4 z5 r5 z6 r6 z7 r7 z8 r8 z9 r9 z10 r10 z11 r11
     have HT := hI hT
     have HF := hI hfar
     have HB := hI hB
     clear hT hfar hB
     have hVz : oPr.R 168 wz w.heap.size (fun _ => True) (.slice A1 n1 c1) x.props := Kd.R_mono (Kd.R_step HVf.out (fun k hk _ => HF.out k hk)) (fun _ _ => trivial)
     have hUz : oCo.R 91 wz w.heap.size (fun _ => True) (.slice A2 n2 c4) x.comps := Kd.R_mono (Kd.R_step HUf.out (fun k hk _ => HF.out k (by omega))) (fun _ _ => trivial)
     have HVz := hI hVz
     have HUz := hI hUz
     clear hVz hUz HVf HUf HF
     go_wp2
     exact bodyPost_ret (v := .agg (oC x (.slice A1 n1 c1) (.slice A2 n2 c4))) (results_cell_row rfl _ _ (w.heap.size + 1) 91 (oC x (.slice A1 n1 c1) (.slice A2 n2 c4)) (0, 0) _ rfl HT.out Tryz.underlying91 rfl (by kernel_rfl)) rfl ⟨_, _, rfl, HVz.out, HUz.out, HB.out⟩
theorem filterOf (N : Nat) : ∀ (x : KCo), SizeOf.sizeOf x ≤ N → KOk x → ∀ (A B : Option Addr) (c c2 : Nat) (w0 w : World), Below w0.heap.size w0 w → kPr.C w0 A x.props.length x.props → kCo.C w0 B x.comps.length x.comps →
  Calls Tryz.prog 39 #[.agg #[.string x.name, .bool x.absent, .bool x.has, .bool x.hasEnd, .int .i64 x.st, .int .i64 x.en, .slice A x.props.length c, .slice B x.comps.length c2]] w (FiltPost w x) := by
 induction N with
 | zero => intro x h; cases x; simp at h
 | succ N ih =>
  intro x hN hO A B c c2 w0 w hb hp hk
  exact filterOf_step x hO (fun k hkm A B c c2 w0 w hb hp hk => ih k (by have := comp_lt x k hkm; omega) (by cases hO with | mk _ a b c d e f g => exact g k hkm) A B c c2 w0 w hb hp hk) A B c c2 w0 w hb hp hk
end Go.Proofs.YtcllaplddebilaaGreatDoor

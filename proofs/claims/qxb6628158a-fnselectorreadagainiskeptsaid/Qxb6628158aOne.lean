/-
  THE LAW's ROW: FnSelectorReadAgainIsKept (3).
-/
import Derived.Test.Qxb6628158aRows
import Derived.Test.Qxb6628158aOpen
import Derived.ProofKit
import Derived.LaidMore
import Derived.OpenShut
namespace Go.Proofs.Qxb6628158a
open Go.ChangeShapes Go.WideShapes Go.ChangeAt Go.RowKit
open Go.ChangeMaps (open_string shut_string)

theorem own : ownKnob Try.prog.godebug = none := by kernel_rfl
theorem laidOut : laidOutB Try.prog = true := by kernel_rfl

/-- A *string that came in. -/
theorem in_strp {H : Type} {enc : TypeId × Value → H} {W : World} {r : Reach} {b0 : Nat} {sp : Nat → Bool} {hd : Bool} {v : Value} {d : DataW H} {ps : List MemPlace}
    (hval : Value.okWide Try.prog W r b0 26 v) (h : DataW.Trod enc Try.prog W 0 sp hd 26 v d ps) :
    ∃ p, v = .pointer p ∧ ∀ a, p = some a → ∃ s, W.cell? a = some (.string s) ∧ s.size ≤ maxLen := by
  rcases open_ptr Try.underlying26 (by rw [Try.cells9]; decide) hval h with ⟨rfl, _, _⟩ | ⟨b, off, cs, y, fuel, rfl, _, _, hl, hc, ht⟩
  · exact ⟨none, rfl, fun a ha => by cases ha⟩
  · obtain ⟨s, hs, _, l⟩ := DataW.trod_string Try.underlying9 ht
    refine ⟨_, rfl, fun a ha => ?_⟩
    cases ha
    have := hc 0 (by rw [Try.cells9]; decide)
    rw [hs] at this
    exact ⟨s, this, l⟩

/-- A *int32 that came in. -/
theorem in_intp {H : Type} {enc : TypeId × Value → H} {W : World} {r : Reach} {b0 : Nat} {sp : Nat → Bool} {hd : Bool} {v : Value} {d : DataW H} {ps : List MemPlace}
    (hval : Value.okWide Try.prog W r b0 25 v) (h : DataW.Trod enc Try.prog W 0 sp hd 25 v d ps) :
    ∃ p, v = .pointer p ∧ ∀ a, p = some a → ∃ n, W.cell? a = some (.int .i32 n) := by
  rcases open_ptr_int Try.underlying25 Try.underlying21 Try.cells21 hval h with ⟨rfl, _, _⟩ | ⟨b, off, n, rfl, _, _, hc, _⟩
  · exact ⟨none, rfl, fun a ha => by cases ha⟩
  · refine ⟨_, rfl, fun a ha => ?_⟩
    cases ha
    exact ⟨n, hc⟩

set_option maxRecDepth 100000 in
theorem lifted1 (os : Os) (started : os.Started) (H : Type) (enc : TypeId × Value → H) :
    ReturnsInHanded {} Try.checked os 3 .any (Rows.fnSelectorReadAgainIsKeptSpec.pre6 enc Try.prog Try.f3 Rows.fnSelectorReadAgainIsKeptRow.domain false) (Rows.fnSelectorReadAgainIsKeptSpec.post enc Try.prog Try.f3 false true false false) := by
  refine returnsInHanded_of_change (C := Try.checked) own started (by kernel_rfl) Try.func3
    (ChangeSpec.witness6 (enc := enc) (C := Try.checked) false ⟨#[], #[.bool false, .slice none 0 0, .slice none 0 0, .slice none 0 0, .slice none 0 0, .int .i32 0, .string ByteArray.empty, .string ByteArray.empty, .pointer none, .pointer none, .pointer none], []⟩ 8 (by kernel_rfl) (by kernel_rfl) (by kernel_rfl) (by kernel_rfl)) ?_
  intro W base args ds gs before hval0 hW hcnd _
  have hval : ∀ (j : Nat) t v, Try.f3.params[j]? = some t → args[j]? = some v → Value.okWide Try.prog W .any base t v := hval0
  have hW' := hW
  obtain ⟨p, q, hA0, hV, rfl, hfz, hnd⟩ := hW
  have hA : DataW.TrodAll enc Try.prog W 0 (fun _ => true) true Try.f3.params.toList args.toList ds p := hA0
  rw [Try.params3] at hA hval
  obtain ⟨v0, vs0, d0, ds0, p0, q0, hargs, rfl, rfl, h0, r0⟩ := trodAll_cons hA
  obtain ⟨v1, vs1, d1, ds1, p1, q1, rfl, rfl, rfl, h1, r1⟩ := trodAll_cons r0
  obtain ⟨v2, vs2, d2, ds2, p2, q2, rfl, rfl, rfl, h2, r2⟩ := trodAll_cons r1
  obtain ⟨v3, vs3, d3, ds3, p3, q3, rfl, rfl, rfl, h3, r3⟩ := trodAll_cons r2
  obtain ⟨v4, vs4, d4, ds4, p4, q4, rfl, rfl, rfl, h4, r4⟩ := trodAll_cons r3
  obtain ⟨v5, vs5, d5, ds5, p5, q5, rfl, rfl, rfl, h5, r5⟩ := trodAll_cons r4
  obtain ⟨v6, vs6, d6, ds6, p6, q6, rfl, rfl, rfl, h6, r6⟩ := trodAll_cons r5
  obtain ⟨v7, vs7, d7, ds7, p7, q7, rfl, rfl, rfl, h7, r7⟩ := trodAll_cons r6
  obtain ⟨v8, vs8, d8, ds8, p8, q8, rfl, rfl, rfl, h8, r8⟩ := trodAll_cons r7
  obtain ⟨v9, vs9, d9, ds9, p9, q9, rfl, rfl, rfl, h9, r9⟩ := trodAll_cons r8
  obtain ⟨v10, vs10, d10, ds10, p10, q10, rfl, rfl, rfl, h10, r10⟩ := trodAll_cons r9
  obtain ⟨rfl, rfl, rfl⟩ := trodAll_nil r10
  obtain rfl : args = #[v0, v1, v2, v3, v4, v5, v6, v7, v8, v9, v10] := by cases args; simp_all
  obtain ⟨rfl, rfl⟩ := trodVars_none hV
  have ltOf : ∀ {t v d p}, DataW.Trod enc Try.prog W 0 (fun _ => true) true t v d p → ∀ x ∈ p, x.block < W.heap.size := by
    intro t v d p k
    obtain ⟨m, hm⟩ := k
    exact DataW.trod_lt m _ _ _ hm
  obtain ⟨a0, rfl, rfl, rfl⟩ := open_bool Try.underlying4 (hval 0 4 v0 rfl rfl) h0
  obtain ⟨a1, l1, c1, rfl⟩ := okWide_slice Try.underlying22 (hval 1 22 v1 rfl rfl)
  obtain ⟨a2, l2, c2, rfl⟩ := okWide_slice Try.underlying23 (hval 2 23 v2 rfl rfl)
  obtain ⟨a3, l3, c3, rfl⟩ := okWide_slice Try.underlying24 (hval 3 24 v3 rfl rfl)
  obtain ⟨a4, l4, c4, rfl⟩ := okWide_slice Try.underlying22 (hval 4 22 v4 rfl rfl)
  obtain ⟨a5, rfl, rfl, rfl, w5⟩ := open_int Try.underlying21 (hval 5 21 v5 rfl rfl) h5
  obtain ⟨a6, rfl, rfl, rfl, w6⟩ := open_string Try.underlying9 (hval 6 9 v6 rfl rfl) h6
  obtain ⟨a7, rfl, rfl, rfl, w7⟩ := open_string Try.underlying9 (hval 7 9 v7 rfl rfl) h7
  obtain ⟨a8, rfl, w8⟩ := in_intp (hval 8 25 v8 rfl rfl) h8
  obtain ⟨a9, rfl, w9⟩ := in_strp (hval 9 26 v9 rfl rfl) h9
  obtain ⟨a10, rfl, w10⟩ := in_strp (hval 10 26 v10 rfl rfl) h10
  obtain ⟨ps, s1, z1⟩ : ∃ ps : List (ByteArray × ByteArray), Sl W (.slice a1 l1 c1) ps.length 2 (prCells ps) ∧ ∀ p ∈ ps, p.1.size ≤ maxLen ∧ p.2.size ≤ maxLen := by
    obtain ⟨m, hm⟩ := h1
    exact in_pairs hm
  obtain ⟨rs, s2, z2⟩ : ∃ rs : List Rq, ReqsIn W (.slice a2 l2 c2) rs ∧ ∀ r ∈ rs, r.wide := by
    obtain ⟨m, hm⟩ := h2
    exact in_reqs hm
  obtain ⟨ks, s3, z3⟩ : ∃ ss : List ByteArray, Sl W (.slice a3 l3 c3) ss.length 1 (strs ss) ∧ ∀ s ∈ ss, s.size ≤ maxLen := by
    obtain ⟨m, hm⟩ := h3
    exact in_strs hm
  obtain ⟨ls, s4, z4⟩ : ∃ ps : List (ByteArray × ByteArray), Sl W (.slice a4 l4 c4) ps.length 2 (prCells ps) ∧ ∀ p ∈ ps, p.1.size ≤ maxLen ∧ p.2.size ≤ maxLen := by
    obtain ⟨m, hm⟩ := h4
    exact in_pairs hm
  clear hA0 hval0
  refine (law_any a0 _ _ _ _ ps ls rs ks a5 a6 a7 a8 a9 a10 W s1 z1 s2 z2 s3 z3 s4 z4 w6 w7 w8 w9 w10).mono fun e W' ⟨he, bel⟩ => ?_
  subst he
  exact ⟨_, rfl, _, _, _, [], _, [], hW', trodAll_mk1 (shut_bool Try.underlying4 _), (trodAll_cons_mk (Below.trod laidOut (by kernel_rfl) (of_decide_eq_true (by kernel_rfl)) h0 bel (ltOf h0)) (trodAll_cons_mk (Below.trod laidOut (by kernel_rfl) (of_decide_eq_true (by kernel_rfl)) h1 bel (ltOf h1)) (trodAll_cons_mk (Below.trod laidOut (by kernel_rfl) (of_decide_eq_true (by kernel_rfl)) h2 bel (ltOf h2)) (trodAll_cons_mk (Below.trod laidOut (by kernel_rfl) (of_decide_eq_true (by kernel_rfl)) h3 bel (ltOf h3)) (trodAll_cons_mk (Below.trod laidOut (by kernel_rfl) (of_decide_eq_true (by kernel_rfl)) h4 bel (ltOf h4)) (trodAll_cons_mk (Below.trod laidOut (by kernel_rfl) (of_decide_eq_true (by kernel_rfl)) h5 bel (ltOf h5)) (trodAll_cons_mk (Below.trod laidOut (by kernel_rfl) (of_decide_eq_true (by kernel_rfl)) h6 bel (ltOf h6)) (trodAll_cons_mk (Below.trod laidOut (by kernel_rfl) (of_decide_eq_true (by kernel_rfl)) h7 bel (ltOf h7)) (trodAll_cons_mk (Below.trod laidOut (by kernel_rfl) (of_decide_eq_true (by kernel_rfl)) h8 bel (ltOf h8)) (trodAll_cons_mk (Below.trod laidOut (by kernel_rfl) (of_decide_eq_true (by kernel_rfl)) h9 bel (ltOf h9)) (trodAll_cons_mk (Below.trod laidOut (by kernel_rfl) (of_decide_eq_true (by kernel_rfl)) h10 bel (ltOf h10)) trodAll_mk0))))))))))), rfl, bel.frame _, fun h => by cases h⟩

/-- ████ THE STATEMENT ████ -/
theorem fnSelectorReadAgainIsKept_holds : Rows.FnSelectorReadAgainIsKeptSaid :=
  OpenClaim.holds_of_wide 3 Try.f3 rfl rfl rfl rfl rfl rfl rfl ⟨rfl, rfl, rfl, rfl, rfl⟩ rfl rfl rfl rfl rfl (by kernel_rfl) Try.func3 (by kernel_rfl)
    (of_decide_eq_true (by kernel_rfl)) (by unfold Func.isWrapper; first | (rw [if_pos (by decide +kernel)]; kernel_rfl) | (rw [if_neg (by decide +kernel)]; exact ⟨rfl, rfl⟩))
    (fun os started H enc _ => lifted1 os started H enc)

end Go.Proofs.Qxb6628158a

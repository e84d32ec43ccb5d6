/-
  THE LAW's ROW: FnTallyIsZeroSplitsAtAnyCut (3).
-/
import Derived.Test.Qxb6628239aRows
import Derived.Test.Qxb6628239aLaw
import Derived.Deep.SlicePairs
import Derived.ProofKit
import Derived.LaidMore
import Derived.OpenShut
namespace Go.Proofs.Qxb6628239a
open Go.ChangeShapes Go.WideShapes Go.ChangeAt Go.RowKit

theorem own : ownKnob Try.prog.godebug = none := by kernel_rfl
theorem laidOut : laidOutB Try.prog = true := by kernel_rfl
theorem Try.cells2 : Try.prog.cellsOf 2 = 1 := by kernel_rfl
theorem Try.cells23 : Try.prog.cellsOf 23 = 1 := by kernel_rfl
theorem Try.cells25 : Try.prog.cellsOf 25 = 2 := by kernel_rfl

theorem pCells_get (ps : List (Int × Int)) (j : Nat) (u : Value) (h : (pCells ps)[j]? = some u) : ∃ p, ps[j / 2]? = some p ∧ ((j % 2 = 0 ∧ u = .int .i64 p.1) ∨ (j % 2 = 1 ∧ u = .int .u64 p.2)) := by
  have hlt : j < ps.length * 2 := by
    have := (List.getElem?_eq_some_iff.1 h).1
    rwa [pCells_length] at this
  obtain ⟨p, hp⟩ : ∃ p, ps[j / 2]? = some p := ⟨_, List.getElem?_eq_getElem (by omega)⟩
  obtain ⟨q0, q1⟩ := pCells_at ps (j / 2) p hp
  refine ⟨p, hp, ?_⟩
  by_cases h2 : j % 2 = 0
  · rw [show j / 2 * 2 = j by omega, h] at q0
    exact .inl ⟨h2, Option.some.inj q0⟩
  · rw [show j / 2 * 2 + 1 = j by omega, h] at q1
    exact .inr ⟨by omega, Option.some.inj q1⟩

theorem range_at {α : Type} {f : Nat → α} {len i : Nat} {x : α} (h : ((List.range len).map f)[i]? = some x) : i < len ∧ x = f i := by
  have hi : i < len := by
    by_cases hlt : i < len
    · exact hlt
    · rw [List.getElem?_eq_none (by simp; omega)] at h; cases h
  rw [List.getElem?_map, List.getElem?_range hi] at h
  exact ⟨hi, (Option.some.inj h).symm⟩

section
variable {H : Type} {enc : TypeId × Value → H} {W : World} {sp : Nat → Bool} {hd : Bool}

/-- A []ZInt128. -/
theorem in_tally {fuel : Nat} {v : Value} {x : DataW H × List MemPlace} (h : DataW.trod enc Try.prog W 0 sp hd fuel 22 [v] = some x) :
    ∃ ps : List (Int × Int), Sl W v ps.length 2 (pCells ps) := by
  rcases Deep.open_slice_pairs Try.underlying22 Try.underlying25 Try.cells25 rfl rfl Try.cells2 Try.cells23 h with ⟨h0, _⟩ | ⟨a, len, cap, m, n, V0, V1, D0, D1, P0, P1, h0, _, hl, hm, hmm, _, hx⟩
  · cases h0
    exact ⟨[], .inl ⟨rfl, rfl, rfl⟩⟩
  · cases h0
    have hlm : len ≤ m := by rw [hmm]; split <;> omega
    have each : ∀ i, i < len → ∃ q : Int × Int, W.cell? (a.add (i * 2)) = some (.int .i64 q.1) ∧ W.cell? (a.add (i * 2 + 1)) = some (.int .u64 q.2) := by
      intro i hi
      obtain ⟨e0, e1, t0, t1⟩ := hx i (by omega)
      obtain ⟨s0, g0, _, _⟩ := DataW.trod_int Try.underlying2 t0
      obtain ⟨s1, g1, _, _⟩ := DataW.trod_int Try.underlying23 t1
      have g0' : V0 i = .int .i64 s0 := by simpa using g0
      have g1' : V1 i = .int .u64 s1 := by simpa using g1
      exact ⟨(s0, s1), by rw [e0, g0'], by rw [e1, g1']⟩
    obtain ⟨q, hq⟩ := Deep.choose_lt each
    refine ⟨(List.range len).map q, .inr ⟨a, cap, by simp, by simpa using hl, by rw [pCells_length], ?_⟩⟩
    intro j u hj
    obtain ⟨p, hp, hu⟩ := pCells_get _ _ _ hj
    obtain ⟨hi, rfl⟩ := range_at hp
    rcases hu with ⟨h2, rfl⟩ | ⟨h2, rfl⟩
    · have := (hq _ hi).1
      rwa [show j / 2 * 2 = j by omega] at this
    · have := (hq _ hi).2
      rwa [show j / 2 * 2 + 1 = j by omega] at this

/-- A ZInt128. -/
theorem in_num {r : Reach} {b0 : Nat} {v : Value} {d : DataW H} {ps : List MemPlace} (hval : Value.okWide Try.prog W r b0 25 v) (h : DataW.Trod enc Try.prog W 0 sp hd 25 v d ps) :
    ∃ x y, v = .agg #[.int .i64 x, .int .u64 y] := by
  obtain ⟨cs, rfl, hcs⟩ := okWide_struct Try.underlying25 hval
  rw [Try.cells25] at hcs
  obtain ⟨cs⟩ := cs
  match cs, hcs with
  | [c0, c1], _ =>
    obtain ⟨fuel, hf⟩ := h
    obtain ⟨y0, y1, n, _, _, g0, g1⟩ := trod_struct2 Try.underlying25 hf
    have k0 : DataW.trod enc Try.prog W 0 sp hd n 2 [c0] = some y0 := g0
    have k1 : DataW.trod enc Try.prog W 0 sp hd n 23 [c1] = some y1 := g1
    obtain ⟨s0, e0, _, _⟩ := DataW.trod_int Try.underlying2 k0
    obtain ⟨s1, e1, _, _⟩ := DataW.trod_int Try.underlying23 k1
    cases e0
    cases e1
    exact ⟨s0, s1, rfl⟩

end

set_option maxRecDepth 100000 in
theorem lifted1 (os : Os) (started : os.Started) (H : Type) (enc : TypeId × Value → H) :
    ReturnsInHanded {} Try.checked os 3 .any (Rows.fnTallyIsZeroSplitsAtAnyCutSpec.pre6 enc Try.prog Try.f3 Rows.fnTallyIsZeroSplitsAtAnyCutRow.domain false) (Rows.fnTallyIsZeroSplitsAtAnyCutSpec.post enc Try.prog Try.f3 false true false false) := by
  refine returnsInHanded_of_change (C := Try.checked) own started (by kernel_rfl) Try.func3
    (ChangeSpec.witness6 (enc := enc) (C := Try.checked) false ⟨#[], #[.slice none 0 0, .int .i64 0, .agg #[.int .i64 0, .int .u64 0]], []⟩ 8 (by kernel_rfl) (by kernel_rfl) (by kernel_rfl) (by kernel_rfl)) ?_
  intro W base args ds gs before hval0 hW hcnd _
  have hval : ∀ (j : Nat) t v, Try.f3.params[j]? = some t → args[j]? = some v → Value.okWide Try.prog W .any base t v := hval0
  have hW' := hW
  obtain ⟨p, q, hA0, hV, rfl, hfz, hnd⟩ := hW
  have hA : DataW.TrodAll enc Try.prog W 0 (fun _ => true) true Try.f3.params.toList args.toList ds p := hA0
  rw [Try.params3] at hA hval
  obtain ⟨v0, vs0, d0, ds0, p0, q0, hargs, rfl, rfl, h0, r0⟩ := trodAll_cons hA
  obtain ⟨v1, vs1, d1, ds1, p1, q1, rfl, rfl, rfl, h1, r1⟩ := trodAll_cons r0
  obtain ⟨v2, vs2, d2, ds2, p2, q2, rfl, rfl, rfl, h2, r2⟩ := trodAll_cons r1
  obtain ⟨rfl, rfl, rfl⟩ := trodAll_nil r2
  obtain rfl : args = #[v0, v1, v2] := by cases args; simp_all
  obtain ⟨rfl, rfl⟩ := trodVars_none hV
  have ltOf : ∀ {t v d p}, DataW.Trod enc Try.prog W 0 (fun _ => true) true t v d p → ∀ x ∈ p, x.block < W.heap.size := by
    intro t v d p k
    obtain ⟨m, hm⟩ := k
    exact DataW.trod_lt m _ _ _ hm
  obtain ⟨a0, l0, c0, rfl⟩ := okWide_slice Try.underlying22 (hval 0 22 v0 rfl rfl)
  obtain ⟨a1, rfl, rfl, rfl, w1⟩ := open_int Try.underlying3 (hval 1 3 v1 rfl rfl) h1
  obtain ⟨x, y, rfl⟩ := in_num (hval 2 25 v2 rfl rfl) h2
  obtain ⟨ts, s0⟩ : ∃ ps : List (Int × Int), Sl W (.slice a0 l0 c0) ps.length 2 (pCells ps) := by
    obtain ⟨m, hm⟩ := h0
    exact in_tally hm
  clear hA0 hval0
  refine (law_any _ ts a1 x y W s0).mono fun e W' ⟨he, bel⟩ => ?_
  subst he
  exact ⟨_, rfl, _, _, _, [], _, [], hW', trodAll_mk1 (shut_bool Try.underlying4 _), (trodAll_cons_mk (Below.trod laidOut (by kernel_rfl) (of_decide_eq_true (by kernel_rfl)) h0 bel (ltOf h0)) (trodAll_cons_mk (Below.trod laidOut (by kernel_rfl) (of_decide_eq_true (by kernel_rfl)) h1 bel (ltOf h1)) (trodAll_cons_mk (Below.trod laidOut (by kernel_rfl) (of_decide_eq_true (by kernel_rfl)) h2 bel (ltOf h2)) trodAll_mk0))), rfl, bel.frame _, fun h => by cases h⟩

/-- ████ THE STATEMENT ████ -/
theorem fnTallyIsZeroSplitsAtAnyCut_holds : Rows.FnTallyIsZeroSplitsAtAnyCutSaid :=
  OpenClaim.holds_of_wide 3 Try.f3 rfl rfl rfl rfl rfl rfl rfl ⟨rfl, rfl, rfl, rfl, rfl⟩ rfl rfl rfl rfl rfl (by kernel_rfl) Try.func3 (by kernel_rfl)
    (of_decide_eq_true (by kernel_rfl)) (by unfold Func.isWrapper; first | (rw [if_pos (by decide +kernel)]; kernel_rfl) | (rw [if_neg (by decide +kernel)]; exact ⟨rfl, rfl⟩))
    (fun os started H enc _ => lifted1 os started H enc)

end Go.Proofs.Qxb6628239a

/-
  THE ARGUMENTS, OPENED: what the walk is told of them.
-/
import Derived.Test.Qxb6628158aLaw
import Derived.Deep.SlicePairs
import Derived.Deep.Strs
namespace Go.Proofs.Qxb6628158a
open Go.ChangeShapes Go.WideShapes Go.RowKit

theorem Try.cells9 : Try.prog.cellsOf 9 = 1 := by kernel_rfl
theorem Try.cells24 : Try.prog.cellsOf 24 = 1 := by kernel_rfl
theorem Try.cells47 : Try.prog.cellsOf 47 = 2 := by kernel_rfl
theorem Try.cells43 : Try.prog.cellsOf 43 = 3 := by kernel_rfl
theorem Try.cells21 : Try.prog.cellsOf 21 = 1 := by kernel_rfl

section
variable {H : Type} {enc : TypeId × Value → H} {W : World} {sp : Nat → Bool} {hd : Bool}

theorem add_add' (a : Addr) (i j : Nat) : (a.add i).add j = a.add (i + j) := Deep.add_add a i j

/-- A []string. -/
theorem in_strs {fuel : Nat} {v : Value} {x : DataW H × List MemPlace} (h : DataW.trod enc Try.prog W 0 sp hd fuel 24 [v] = some x) :
    ∃ ss : List ByteArray, Sl W v ss.length 1 (strs ss) ∧ ∀ s ∈ ss, s.size ≤ maxLen := by
  rcases Deep.open_strs Try.underlying24 Try.underlying9 Try.cells9 h with ⟨h0, _⟩ | ⟨a, len, cap, m, Sx, h0, _, hl, hm, hmm, _, hx⟩
  · cases h0
    exact ⟨[], .inl ⟨rfl, rfl, rfl⟩, by simp⟩
  · cases h0
    have hlm : len ≤ m := by rw [hmm]; split <;> omega
    refine ⟨(List.range len).map Sx, .inr ⟨a, cap, by simp, by simpa using hl, by simp [strs], ?_⟩, ?_⟩
    · intro j u hj
      simp only [strs, List.map_map, List.getElem?_map] at hj
      have hjl : j < len := by
        by_cases hlt : j < len
        · exact hlt
        · rw [List.getElem?_eq_none (by simp; omega)] at hj; cases hj
      rw [List.getElem?_range hjl] at hj
      cases hj
      exact (hx j (by omega)).1
    · intro s hs
      obtain ⟨i, hi, rfl⟩ := List.mem_map.1 hs
      exact (hx i (by have := List.mem_range.1 hi; omega)).2

theorem prCells_get (ps : List (ByteArray × ByteArray)) (j : Nat) (u : Value) (h : (prCells ps)[j]? = some u) : ∃ p, ps[j / 2]? = some p ∧ ((j % 2 = 0 ∧ u = .string p.1) ∨ (j % 2 = 1 ∧ u = .string p.2)) := by
  have hlt : j < ps.length * 2 := by
    have := (List.getElem?_eq_some_iff.1 h).1
    rwa [prCells_length] at this
  obtain ⟨p, hp⟩ : ∃ p, ps[j / 2]? = some p := ⟨_, List.getElem?_eq_getElem (by omega)⟩
  obtain ⟨q0, q1⟩ := prCells_at ps (j / 2) p hp
  refine ⟨p, hp, ?_⟩
  by_cases h2 : j % 2 = 0
  · rw [show j / 2 * 2 = j by omega, h] at q0
    exact .inl ⟨h2, Option.some.inj q0⟩
  · rw [show j / 2 * 2 + 1 = j by omega, h] at q1
    exact .inr ⟨by omega, Option.some.inj q1⟩

theorem rqCells_get (rs : List Rq) (j : Nat) (u : Value) (h : (rqCells rs)[j]? = some u) : ∃ r, rs[j / 3]? = some r ∧ ((j % 3 = 0 ∧ u = .string r.key) ∨ (j % 3 = 1 ∧ u = .string r.op) ∨ (j % 3 = 2 ∧ u = r.v)) := by
  have hlt : j < rs.length * 3 := by
    have := (List.getElem?_eq_some_iff.1 h).1
    rwa [rqCells_length] at this
  obtain ⟨r, hr⟩ : ∃ r, rs[j / 3]? = some r := ⟨_, List.getElem?_eq_getElem (by omega)⟩
  obtain ⟨q0, q1, q2⟩ := rqCells_at rs (j / 3) r hr
  refine ⟨r, hr, ?_⟩
  by_cases h2 : j % 3 = 0
  · rw [show j / 3 * 3 = j by omega, h] at q0
    exact .inl ⟨h2, Option.some.inj q0⟩
  · by_cases h3 : j % 3 = 1
    · rw [show j / 3 * 3 + 1 = j by omega, h] at q1
      exact .inr (.inl ⟨h3, Option.some.inj q1⟩)
    · rw [show j / 3 * 3 + 2 = j by omega, h] at q2
      exact .inr (.inr ⟨by omega, Option.some.inj q2⟩)

theorem range_at {α : Type} {f : Nat → α} {len i : Nat} {x : α} (h : ((List.range len).map f)[i]? = some x) : i < len ∧ x = f i := by
  have hi : i < len := by
    by_cases hlt : i < len
    · exact hlt
    · rw [List.getElem?_eq_none (by simp; omega)] at h; cases h
  rw [List.getElem?_map, List.getElem?_range hi] at h
  exact ⟨hi, (Option.some.inj h).symm⟩

/-- A []ZPair. -/
theorem in_pairs {fuel : Nat} {v : Value} {x : DataW H × List MemPlace} (h : DataW.trod enc Try.prog W 0 sp hd fuel 22 [v] = some x) :
    ∃ ps : List (ByteArray × ByteArray), Sl W v ps.length 2 (prCells ps) ∧ ∀ p ∈ ps, p.1.size ≤ maxLen ∧ p.2.size ≤ maxLen := by
  rcases Deep.open_slice_pairs Try.underlying22 Try.underlying47 Try.cells47 rfl rfl Try.cells9 Try.cells9 h with ⟨h0, _⟩ | ⟨a, len, cap, m, n, V0, V1, D0, D1, P0, P1, h0, _, hl, hm, hmm, _, hx⟩
  · cases h0
    exact ⟨[], .inl ⟨rfl, rfl, rfl⟩, by simp⟩
  · cases h0
    have hlm : len ≤ m := by rw [hmm]; split <;> omega
    have each : ∀ i, i < len → ∃ q : ByteArray × ByteArray, W.cell? (a.add (i * 2)) = some (.string q.1) ∧ W.cell? (a.add (i * 2 + 1)) = some (.string q.2) ∧ q.1.size ≤ maxLen ∧ q.2.size ≤ maxLen := by
      intro i hi
      obtain ⟨e0, e1, t0, t1⟩ := hx i (by omega)
      obtain ⟨s0, g0, _, l0⟩ := DataW.trod_string Try.underlying9 t0
      obtain ⟨s1, g1, _, l1⟩ := DataW.trod_string Try.underlying9 t1
      have g0' : V0 i = .string s0 := by simpa using g0
      have g1' : V1 i = .string s1 := by simpa using g1
      exact ⟨(s0, s1), by rw [e0, g0'], by rw [e1, g1'], l0, l1⟩
    haveI : Inhabited (ByteArray × ByteArray) := ⟨(emp, emp)⟩
    obtain ⟨q, hq⟩ := Deep.choose_lt each
    refine ⟨(List.range len).map q, .inr ⟨a, cap, by simp, by simpa using hl, by rw [prCells_length], ?_⟩, ?_⟩
    · intro j u hj
      obtain ⟨p, hp, hu⟩ := prCells_get _ _ _ hj
      obtain ⟨hi, rfl⟩ := range_at hp
      rcases hu with ⟨h2, rfl⟩ | ⟨h2, rfl⟩
      · have := (hq _ hi).1
        rwa [show j / 2 * 2 = j by omega] at this
      · have := (hq _ hi).2.1
        rwa [show j / 2 * 2 + 1 = j by omega] at this
    · intro p hp
      obtain ⟨i, hi, rfl⟩ := List.mem_map.1 hp
      exact ⟨(hq i (List.mem_range.1 hi)).2.2.1, (hq i (List.mem_range.1 hi)).2.2.2⟩

/-- A []ZReq. -/
theorem in_reqs {fuel : Nat} {v : Value} {x : DataW H × List MemPlace} (h : DataW.trod enc Try.prog W 0 sp hd fuel 23 [v] = some x) :
    ∃ rs : List Rq, ReqsIn W v rs ∧ ∀ r ∈ rs, r.wide := by
  rcases Deep.open_slice Try.underlying23 h with ⟨h0, _⟩ | ⟨a, len, cap, m, n, D, Pl, h0, _, hl, hm, hmm, _, hx⟩
  · cases h0
    exact ⟨[], ⟨.inl ⟨rfl, rfl, rfl⟩, by simp⟩, by simp⟩
  · cases h0
    have hlm : len ≤ m := by rw [hmm]; split <;> omega
    have each : ∀ i, i < len → ∃ q : Rq, W.cell? (a.add (i * 3)) = some (.string q.key) ∧ W.cell? (a.add (i * 3 + 1)) = some (.string q.op) ∧ W.cell? (a.add (i * 3 + 2)) = some q.v ∧ Sl W q.v q.vals.length 1 (strs q.vals) ∧ q.wide := by
      intro i hi
      obtain ⟨cs', h1, h2⟩ := hx i (by omega)
      rw [Try.cells43] at h1
      obtain ⟨_, hlen, hcell⟩ := World.cells?_some h1
      obtain ⟨xs, k, hk, hxy, _, hxl, hf⟩ := DataW.trod_struct Try.underlying43 h2
      match xs, hxl, cs', hlen with
      | [y0, y1, y2], _, [v0, v1, v2], _ =>
        have g0 := hf 0 _ rfl
        have g1 := hf 1 _ rfl
        have g2 := hf 2 _ rfl
        simp [Try.cells9, Try.cells24] at g0 g1 g2
        have e0 := hcell 0 (by omega)
        have e1 := hcell 1 (by omega)
        have e2 := hcell 2 (by omega)
        rw [add_add'] at e0 e1 e2
        obtain ⟨s0, k0, _, l0⟩ := DataW.trod_string Try.underlying9 g0
        obtain ⟨s1, k1, _, l1⟩ := DataW.trod_string Try.underlying9 g1
        obtain ⟨ss, k2, l2⟩ := in_strs g2
        cases k0
        cases k1
        exact ⟨⟨s0, s1, v2, ss⟩, by simpa using e0, by simpa using e1, by simpa using e2, k2, l0, l1, l2⟩
    haveI : Inhabited Rq := ⟨zeroRq⟩
    obtain ⟨q, hq⟩ := Deep.choose_lt each
    refine ⟨(List.range len).map q, ⟨.inr ⟨a, cap, by simp, by simpa using hl, by rw [rqCells_length], ?_⟩, ?_⟩, ?_⟩
    · intro j u hj
      obtain ⟨r, hr, hu⟩ := rqCells_get _ _ _ hj
      obtain ⟨hi, rfl⟩ := range_at hr
      rcases hu with ⟨h2, rfl⟩ | ⟨h2, rfl⟩ | ⟨h2, rfl⟩
      · have := (hq _ hi).1
        rwa [show j / 3 * 3 = j by omega] at this
      · have := (hq _ hi).2.1
        rwa [show j / 3 * 3 + 1 = j by omega] at this
      · have := (hq _ hi).2.2.1
        rwa [show j / 3 * 3 + 2 = j by omega] at this
    · intro r hr
      obtain ⟨i, hi, rfl⟩ := List.mem_map.1 hr
      exact (hq i (List.mem_range.1 hi)).2.2.2.1
    · intro r hr
      obtain ⟨i, hi, rfl⟩ := List.mem_map.1 hr
      exact (hq i (List.mem_range.1 hi)).2.2.2.2

end
end Go.Proofs.Qxb6628158a

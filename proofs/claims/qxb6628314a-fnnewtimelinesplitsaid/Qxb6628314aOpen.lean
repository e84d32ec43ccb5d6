/-
  THE ARGUMENTS, OPENED: what the walk is told of them.
-/
import Derived.Test.Qxb6628314aOk
import Derived.Deep.SlicePairs
import Derived.Deep.Strs
import Derived.WideShapes
namespace Go.Proofs.Qxb6628314a
open Go.ChangeShapes Go.WideShapes Go.RowKit

theorem Try.cells2 : Try.prog.cellsOf 2 = 1 := by kernel_rfl
theorem Try.cells3 : Try.prog.cellsOf 3 = 1 := by kernel_rfl
theorem Try.cells4 : Try.prog.cellsOf 4 = 1 := by kernel_rfl
theorem Try.cells9 : Try.prog.cellsOf 9 = 1 := by kernel_rfl
theorem Try.cells22 : Try.prog.cellsOf 22 = 1 := by kernel_rfl
theorem Try.cells23 : Try.prog.cellsOf 23 = 1 := by kernel_rfl
theorem Try.cells25 : Try.prog.cellsOf 25 = 25 := by kernel_rfl
theorem Try.cells49 : Try.prog.cellsOf 49 = 5 := by kernel_rfl

theorem wf_i64 {n : Int} (h : (Lit.int .i64 n).wf = true) : -9223372036854775808 ≤ n ∧ n ≤ 9223372036854775807 := by
  simp [Lit.wf, IntKind.min, IntKind.max, IntKind.signed, IntKind.bits] at h
  omega

section
variable {H : Type} {enc : TypeId × Value → H} {W : World} {sp : Nat → Bool} {hd : Bool}

/-- A float. -/
theorem trod_flt {fuel : Nat} {k : FloatKind} {t : TypeId} {cs : List Value} {x : DataW H × List MemPlace} (ht : Try.prog.underlying t = some (.float k)) (h : DataW.trod enc Try.prog W 0 sp hd fuel t cs = some x) : ∃ b, cs = [.float k b] := by
  cases fuel with
  | zero => simp [DataW.trod] at h
  | succ n =>
    unfold DataW.trod at h
    rw [ht] at h
    split at h <;> simp_all

/-- A []string. -/
theorem in_strs {fuel : Nat} {v : Value} {x : DataW H × List MemPlace} (h : DataW.trod enc Try.prog W 0 sp hd fuel 22 [v] = some x) :
    ∃ ss : List ByteArray, Sl W v ss.length 1 (strs ss) := by
  rcases Deep.open_strs Try.underlying22 Try.underlying9 Try.cells9 h with ⟨h0, _⟩ | ⟨a, len, cap, m, Sx, h0, _, hl, hm, hmm, _, hx⟩
  · cases h0
    exact ⟨[], .inl ⟨rfl, rfl, rfl⟩⟩
  · cases h0
    have hlm : len ≤ m := by rw [hmm]; split <;> omega
    refine ⟨(List.range len).map Sx, .inr ⟨a, cap, by simp, by simpa using hl, by simp [strs], ?_⟩⟩
    intro j u hj
    simp only [strs, List.map_map, List.getElem?_map] at hj
    have hjl : j < len := by
      by_cases hlt : j < len
      · exact hlt
      · rw [List.getElem?_eq_none (by simp; omega)] at hj; cases hj
    rw [List.getElem?_range hjl] at hj
    cases hj
    exact (hx j (by omega)).1

theorem add_add' (a : Addr) (i j : Nat) : (a.add i).add j = a.add (i + j) := Deep.add_add a i j

theorem range_at {α : Type} {f : Nat → α} {len i : Nat} {x : α} (h : ((List.range len).map f)[i]? = some x) : i < len ∧ x = f i := by
  have hi : i < len := by
    by_cases hlt : i < len
    · exact hlt
    · rw [List.getElem?_eq_none (by simp; omega)] at h; cases h
  rw [List.getElem?_map, List.getElem?_range hi] at h
  exact ⟨hi, (Option.some.inj h).symm⟩

theorem spec_get (es : List Ev) (j : Nat) (u : Value) (h : (es.flatMap Ev.spec)[j]? = some u) : ∃ e, es[j / 5]? = some e ∧ e.spec[j % 5]? = some u := by
  have hlt : j < es.length * 5 := by
    have := (List.getElem?_eq_some_iff.1 h).1
    rwa [flat_len _ 5 spec_len] at this
  obtain ⟨e, he⟩ : ∃ e, es[j / 5]? = some e := ⟨_, List.getElem?_eq_getElem (by omega)⟩
  have q := flat_at Ev.spec 5 spec_len es (j / 5) e he (j % 5) (by omega)
  rw [show j / 5 * 5 + j % 5 = j by omega, h] at q
  exact ⟨e, he, q.symm⟩

/-- A []EvSpec. -/
theorem in_evs {fuel : Nat} {v : Value} {x : DataW H × List MemPlace} (h : DataW.trod enc Try.prog W 0 sp hd fuel 26 [v] = some x) :
    ∃ es : List Ev, Sl W v es.length 5 (es.flatMap Ev.spec) ∧ ∀ e ∈ es, e.fits := by
  rcases Deep.open_slice Try.underlying26 h with ⟨h0, _⟩ | ⟨a, len, cap, m, n, D, Pl, h0, _, hl, hm, hmm, _, hx⟩
  · cases h0
    exact ⟨[], .inl ⟨rfl, rfl, rfl⟩, by simp⟩
  · cases h0
    have hlm : len ≤ m := by rw [hmm]; split <;> omega
    have each : ∀ i, i < len → ∃ q : Ev, (∀ j u, q.spec[j]? = some u → W.cell? (a.add (i * 5 + j)) = some u) ∧ q.fits := by
      intro i hi
      obtain ⟨cs', h1, h2⟩ := hx i (by omega)
      rw [Try.cells49] at h1
      obtain ⟨_, hlen, hcell⟩ := World.cells?_some h1
      obtain ⟨xs, k, hk, hxy, _, hxl, hf⟩ := DataW.trod_struct Try.underlying49 h2
      match xs, hxl, cs', hlen with
      | [y0, y1, y2, y3, y4], _, [v0, v1, v2, v3, v4], _ =>
        have g0 := hf 0 _ rfl
        have g1 := hf 1 _ rfl
        have g2 := hf 2 _ rfl
        have g3 := hf 3 _ rfl
        have g4 := hf 4 _ rfl
        simp [Try.cells9, Try.cells3, Try.cells2] at g0 g1 g2 g3 g4
        obtain ⟨s0, k0, _, _⟩ := DataW.trod_int Try.underlying3 g0
        obtain ⟨s1, k1, _, _⟩ := DataW.trod_string Try.underlying9 g1
        obtain ⟨s2, k2, _, l2⟩ := DataW.trod_int Try.underlying2 g2
        obtain ⟨s3, k3, _, _⟩ := DataW.trod_string Try.underlying9 g3
        obtain ⟨s4, k4, _, _⟩ := DataW.trod_string Try.underlying9 g4
        cases k0
        cases k1
        cases k2
        cases k3
        cases k4
        refine ⟨⟨s0, s1, s2, s3, s4⟩, ?_, wf_i64 l2⟩
        intro j u hj
        have hj5 : j < 5 := (List.getElem?_eq_some_iff.1 hj).1
        have e := hcell j hj5
        rw [add_add'] at e
        rw [e]
        exact hj
    haveI : Inhabited Ev := ⟨⟨0, emp, 0, emp, emp⟩⟩
    obtain ⟨q, hq⟩ := Deep.choose_lt each
    refine ⟨(List.range len).map q, .inr ⟨a, cap, by simp, by simpa using hl, by rw [flat_len _ 5 spec_len], ?_⟩, ?_⟩
    · intro j u hj
      obtain ⟨r, hr, hu⟩ := spec_get _ _ _ hj
      obtain ⟨hi, rfl⟩ := range_at hr
      have := (hq _ hi).1 _ _ hu
      rwa [show j / 5 * 5 + j % 5 = j by omega] at this
    · intro r hr
      obtain ⟨i, hi, rfl⟩ := List.mem_map.1 hr
      exact (hq i (List.mem_range.1 hi)).2

set_option maxHeartbeats 1000000 in
/-- An AppealSpec. -/
theorem in_ap {r : Reach} {b0 : Nat} {v : Value} {d : DataW H} {ps : List MemPlace} (hval : Value.okWide Try.prog W r b0 25 v) (h : DataW.Trod enc Try.prog W 0 sp hd 25 v d ps) :
    ∃ (a : Ap) (us : List ByteArray), v = .agg a.cells.toArray ∧ a.fits ∧ a.el = us.length ∧ Sl W (.slice a.ea a.el a.ec) us.length 1 (strs us) := by
  obtain ⟨cs, rfl, hcs⟩ := okWide_struct Try.underlying25 hval
  rw [Try.cells25] at hcs
  obtain ⟨cs⟩ := cs
  match cs, hcs with
  | [c0, c1, c2, c3, c4, c5, c6, c7, c8, c9, c10, c11, c12, c13, c14, c15, c16, c17, c18, c19, c20, c21, c22, c23, c24], _ =>
    obtain ⟨fuel, hf⟩ := h
    obtain ⟨xs, k, hk, hxy, _, hxl, hf⟩ := DataW.trod_struct Try.underlying25 hf
    match xs, hxl with
    | [y0, y1, y2, y3, y4, y5, y6, y7, y8, y9, y10, y11, y12, y13, y14, y15, y16, y17, y18, y19, y20, y21, y22, y23, y24], _ =>
      have g0 := hf 0 _ rfl
      have g1 := hf 1 _ rfl
      have g2 := hf 2 _ rfl
      have g3 := hf 3 _ rfl
      have g4 := hf 4 _ rfl
      have g5 := hf 5 _ rfl
      have g6 := hf 6 _ rfl
      have g7 := hf 7 _ rfl
      have g8 := hf 8 _ rfl
      have g9 := hf 9 _ rfl
      have g10 := hf 10 _ rfl
      have g11 := hf 11 _ rfl
      have g12 := hf 12 _ rfl
      have g13 := hf 13 _ rfl
      have g14 := hf 14 _ rfl
      have g15 := hf 15 _ rfl
      have g16 := hf 16 _ rfl
      have g17 := hf 17 _ rfl
      have g18 := hf 18 _ rfl
      have g19 := hf 19 _ rfl
      have g20 := hf 20 _ rfl
      have g21 := hf 21 _ rfl
      have g22 := hf 22 _ rfl
      have g23 := hf 23 _ rfl
      have g24 := hf 24 _ rfl
      simp [Try.cells2, Try.cells3, Try.cells4, Try.cells9, Try.cells22, Try.cells23] at g0 g1 g2 g3 g4 g5 g6 g7 g8 g9 g10 g11 g12 g13 g14 g15 g16 g17 g18 g19 g20 g21 g22 g23 g24
      obtain ⟨id, k0, _, _⟩ := DataW.trod_string Try.underlying9 g0
      cases k0
      obtain ⟨sid, k1, _, _⟩ := DataW.trod_string Try.underlying9 g1
      cases k1
      obtain ⟨uid, k2, _, _⟩ := DataW.trod_string Try.underlying9 g2
      cases k2
      obtain ⟨st, k3, _, _⟩ := DataW.trod_string Try.underlying9 g3
      cases k3
      obtain ⟨pr, k4, _, _⟩ := DataW.trod_int Try.underlying3 g4
      cases k4
      obtain ⟨rsn, k5, _, _⟩ := DataW.trod_string Try.underlying9 g5
      cases k5
      obtain ⟨stm, k6, _, _⟩ := DataW.trod_string Try.underlying9 g6
      cases k6
      obtain ⟨us, hus⟩ := in_strs g7
      obtain ⟨ea, ec, rfl⟩ := hus.shape
      obtain ⟨ca, k8, _, l8⟩ := DataW.trod_int Try.underlying2 g8
      cases k8
      obtain ⟨xa, k9, _, l9⟩ := DataW.trod_int Try.underlying2 g9
      cases k9
      obtain ⟨hd, k10, _⟩ := DataW.trod_bool Try.underlying4 g10
      cases k10
      obtain ⟨oc, k11, _, _⟩ := DataW.trod_string Try.underlying9 g11
      cases k11
      obtain ⟨rp, k12, _, _⟩ := DataW.trod_string Try.underlying9 g12
      cases k12
      obtain ⟨nt, k13, _, _⟩ := DataW.trod_string Try.underlying9 g13
      cases k13
      obtain ⟨hr, k14, _⟩ := DataW.trod_bool Try.underlying4 g14
      cases k14
      obtain ⟨rpts, k15, _, _⟩ := DataW.trod_int Try.underlying3 g15
      cases k15
      obtain ⟨hn, k16, _⟩ := DataW.trod_bool Try.underlying4 g16
      cases k16
      obtain ⟨ne, k17, _, l17⟩ := DataW.trod_int Try.underlying2 g17
      cases k17
      obtain ⟨db, k18, _, _⟩ := DataW.trod_string Try.underlying9 g18
      cases k18
      obtain ⟨da, k19, _, l19⟩ := DataW.trod_int Try.underlying2 g19
      cases k19
      obtain ⟨ha, k20, _⟩ := DataW.trod_bool Try.underlying4 g20
      cases k20
      obtain ⟨vd, k21, _, _⟩ := DataW.trod_string Try.underlying9 g21
      cases k21
      obtain ⟨cf, k22⟩ := trod_flt Try.underlying23 g22
      cases k22
      obtain ⟨rg, k23, _, _⟩ := DataW.trod_string Try.underlying9 g23
      cases k23
      obtain ⟨aa, k24, _, l24⟩ := DataW.trod_int Try.underlying2 g24
      cases k24
      exact ⟨⟨id, sid, uid, st, pr, rsn, stm, ea, us.length, ec, ca, xa, hd, oc, rp, nt, hr, rpts, hn, ne, db, da, ha, vd, cf, rg, aa⟩, us, rfl, ⟨wf_i64 l8, wf_i64 l9, wf_i64 l17, wf_i64 l19, wf_i64 l24⟩, rfl, hus⟩

end
end Go.Proofs.Qxb6628314a

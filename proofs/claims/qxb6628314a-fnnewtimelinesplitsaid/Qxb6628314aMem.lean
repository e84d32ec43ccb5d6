/-
  Small laws on memory for the walks of this seat: a block whose cells are a known list.
-/
import Derived.WalkKit
import Derived.WalkSpells
import Derived.WalkLawsBesides
namespace Go.Proofs.Qxb6628314a
open Go.RowKit

/-- Block g holds just the cells L, none of them frozen. -/
def Row (w : World) (g : Nat) (e : TypeId) (L : List Value) : Prop := w.heap[g]? = some (.cells L.toArray e (0, 0))

theorem Row.cell {w : World} {g : Nat} {e : TypeId} {L : List Value} (h : Row w g e L) {j : Nat} {v : Value} (hj : L[j]? = some v) : w.cell? ⟨g, j, none⟩ = some v := by
  unfold Row at h
  simp [World.cell?, h, hj]

theorem Row.frozen {w : World} {g : Nat} {e : TypeId} {L : List Value} (h : Row w g e L) (j : Nat) : w.frozen? ⟨g, j, none⟩ = false := by
  unfold Row at h
  simp [World.frozen?, h]

theorem Row.lt {w : World} {g : Nat} {e : TypeId} {L : List Value} (h : Row w g e L) : g < w.heap.size := (Array.getElem?_eq_some_iff.1 h).1

theorem Row.set {w : World} {g : Nat} {e : TypeId} {L : List Value} (h : Row w g e L) (j : Nat) (v : Value) : Row (w.setCell ⟨g, j, none⟩ v) g e (L.set j v) := by
  unfold Row at *
  rw [setCell_eq_setRow w g j L.toArray e (0, 0) v h, setRow_heap w g _ _ e (0, 0) h]
  simp

theorem Row.other {w : World} {g : Nat} {e : TypeId} {L : List Value} (h : Row w g e L) (p : Addr) (hp : p.block ≠ g) (v : Value) : Row (w.setCell p v) g e L := by
  unfold Row at *
  rw [Below.heap_setCell _ _ _ _ (fun e => hp e.symm)]
  exact h

theorem Row.alloc {w : World} {g : Nat} {e : TypeId} {L : List Value} (h : Row w g e L) (o : Obj) : Row (w.alloc o) g e L := by
  have hl := h.lt
  unfold Row at *
  rw [heap_alloc_old w o hl]
  exact h

theorem Row.new (w : World) (e : TypeId) (L : List Value) : Row (w.alloc (.cells L.toArray e)) w.heap.size e L := heap_alloc_new w _

theorem Row.below {w w' : World} {g B : Nat} {e : TypeId} {L : List Value} (h : Row w g e L) (hb : Below B w w') (hg : g < B) : Row w' g e L := by
  unfold Row at *
  rw [hb.block g hg]
  exact h

theorem Row.grown {w w' : World} {g : Nat} {row : Option Nat} {e : TypeId} {L : List Value} (h : Row w g e L) (hg : w.grownBy w' row) (hne : some g ≠ row) : Row w' g e L := by
  have hl := h.lt
  unfold Row at *
  rw [hg.block g hl hne]
  exact h

theorem Row.drewN {w : World} {g n : Nat} {e : TypeId} {L : List Value} (h : Row w g e L) : Row (w.drewN n) g e L := h

theorem Row.drew {w : World} {g : Nat} {e : TypeId} {L : List Value} (h : Row w g e L) : Row w.drew g e L := h

/-- The slice v has n elements of sz cells each; its cells are L. -/
def Sl (w : World) (v : Value) (n sz : Nat) (L : List Value) : Prop :=
  (v = .slice none 0 0 ∧ n = 0 ∧ L = []) ∨ ∃ ad c, v = .slice (some ad) n c ∧ n ≤ c ∧ L.length = n * sz ∧ ∀ j u, L[j]? = some u → w.cell? (ad.add j) = some u

theorem Sl.len {w : World} {v : Value} {n sz : Nat} {L : List Value} (h : Sl w v n sz L) : L.length = n * sz := by
  rcases h with ⟨_, rfl, rfl⟩ | ⟨ad, c, _, _, h, _⟩
  · simp
  · exact h

theorem Sl.shape {w : World} {v : Value} {n sz : Nat} {L : List Value} (h : Sl w v n sz L) : ∃ ao c, v = .slice ao n c := by
  rcases h with ⟨rfl, rfl, _⟩ | ⟨ad, c, h, _⟩
  · exact ⟨none, 0, rfl⟩
  · exact ⟨some ad, c, h⟩

theorem Sl.at {w : World} {v : Value} {n sz : Nat} {L : List Value} (h : Sl w v n sz L) (hL : 0 < L.length) : ∃ b off c, v = .slice (some ⟨b, off, none⟩) n c ∧ n ≤ c ∧ b < w.heap.size ∧ ∀ j u, L[j]? = some u → w.cell? ⟨b, off + j, none⟩ = some u := by
  rcases h with ⟨_, _, rfl⟩ | ⟨ad, c, h1, h2, _, h3⟩
  · simp at hL
  · obtain ⟨b, off, spot⟩ := ad
    have h0 := h3 0 L[0] (List.getElem?_eq_getElem hL)
    have hs : spot = none := by simpa [Addr.add] using World.cell?_spot h0
    subst hs
    refine ⟨b, off, c, h1, h2, ?_, fun j u hj => ?_⟩
    · have := World.block_lt_of_cell? w _ h0
      rwa [Addr.add_lit] at this
    · have := h3 j u hj
      rwa [Addr.add_lit] at this

theorem Sl.on {w w' : World} {v : Value} {n sz : Nat} {L : List Value} (h : Sl w v n sz L) (hb : Below w.heap.size w w') : Sl w' v n sz L := by
  rcases h with h | ⟨ad, c, h1, h2, h3, h4⟩
  · exact .inl h
  · exact .inr ⟨ad, c, h1, h2, h3, fun j u hj => (hb.cell (World.block_lt_of_cell? w _ (h4 j u hj))).trans (h4 j u hj)⟩

theorem Sl.alloc {w : World} {v : Value} {n sz : Nat} {L : List Value} (h : Sl w v n sz L) (o : Obj) : Sl (w.alloc o) v n sz L := h.on ((Below.refl _ _).alloc (Nat.le_refl _) _)

theorem Sl.drewN {w : World} {v : Value} {n sz : Nat} {L : List Value} (h : Sl w v n sz L) (k : Nat) : Sl (w.drewN k) v n sz L := h

theorem Sl.ofRow {w : World} {g : Nat} {e : TypeId} {n sz c : Nat} {L : List Value} (h : Row w g e L) (hl : L.length = n * sz) (hc : n ≤ c) : Sl w (.slice (some ⟨g, 0, none⟩) n c) n sz L := by
  refine .inr ⟨_, _, rfl, hc, hl, fun j u hj => ?_⟩
  rw [Addr.add_lit, Nat.zero_add]
  exact h.cell hj

theorem Sl.grown {w w' : World} {v : Value} {n sz d : Nat} {L : List Value} (h : Sl w v n sz L) (hg : w.grownBy w' (some d)) (hne : ∀ ad k c, v = .slice (some ad) k c → 0 < L.length → ad.block ≠ d) : Sl w' v n sz L := by
  rcases h with h | ⟨ad, c, h1, h2, h3, h4⟩
  · exact .inl h
  · refine .inr ⟨ad, c, h1, h2, h3, fun j u hj => ?_⟩
    have hlt := World.block_lt_of_cell? w _ (h4 j u hj)
    have hL : 0 < L.length := by have := (List.getElem?_eq_some_iff.1 hj).1; omega
    have hb : (ad.add j).block = ad.block := by unfold Addr.add; split <;> rfl
    rw [World.cell?_of_block (hg.block _ hlt (by rw [hb]; intro e; exact hne ad n c h1 hL (by simpa using e)))]
    exact h4 j u hj

/-- 'make([]T, n)' at an element type of one cell. -/
theorem wpList_make_row {P : Program} (w : World) {ops : Array Oper} {rest : List Oper} {o : Oper} {a : Act} {Q : Exit → Act → World → Prop}
    (hg : o.guard = none) (l c : Operand) (t : TypeId) (hop : o.op = Op.makeSlice t l c)
    (e : TypeId) (i : TypeInfo) (z : Value) (h1 : P.underlying t = some (.slice e)) (h2 : P.info? e = some i) (h3 : i.zero = some z) (h4 : i.size = 1) (hz : z.cells = #[z])
    (kl kc : IntKind) (L C : Int) (n m : Nat) (hl : a.eval l = .int kl L) (hc : a.eval c = .int kc C) (hL : L = (n : Int)) (hC : C = (m : Int)) (hnm : n ≤ m) (b2 : i.bytes * m ≤ 281474976710656) (b3 : m ≤ maxLen)
    (hK : ∀ w', Row w' w.heap.size e (List.replicate m z) → Below w.heap.size w w' → w'.heap.size = w.heap.size + 1 → wpList P ops Q rest (a.put o.dst (.slice (some ⟨w.heap.size, 0, none⟩) n m)) w') :
    wpList P ops Q (o :: rest) a w := by
  refine wpList_plain hg fun K hK' => ?_
  have h63' : (m : Int) ≤ 9223372036854775807 := by
    have h := b3
    simp [maxLen] at h
    omega
  have hb' : (i.bytes : Int) * (m : Int) ≤ 281474976710656 := by
    have h : ((i.bytes * m : Nat) : Int) ≤ 281474976710656 := by omega
    rwa [Int.natCast_mul] at h
  have hr := run_make (P := P) w t e i z h1 h2 h3 kl kc n m (by omega) (by omega) hb' h63'
  simp only [Int.toNat_natCast, h4, Nat.mul_one, hz] at hr
  have em : madeCells #[z] m = (List.replicate m z).toArray := by
    apply Array.ext'
    rw [toList_madeCells_one]
  rw [em] at hr
  subst hL
  subst hC
  unfold Oper.wp
  simp [execOp, hop, hl, hc, hr, Result.andThen]
  exact hK' _ _ (hK _ (Row.new w e _) ((Below.refl _ _).alloc (Nat.le_refl _) _) (by simp))

end Go.Proofs.Qxb6628314a

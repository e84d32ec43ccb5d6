/-
  Small laws on memory for the walks of this seat: a block whose cells are a known list.
-/
import Derived.WalkKit
import Derived.WalkSpells
import Derived.WalkLawsBesides
namespace Go.Proofs.Qxb6627884aDoor
open Go.RowKit

/-- Block g holds just the cells L, none of them frozen. -/
def Row (w : World) (g : Nat) (e : TypeId) (L : List Value) : Prop := w.heap[g]? = some (.cells L.toArray e (0, 0))

theorem Row.cell {w : World} {g : Nat} {e : TypeId} {L : List Value} (h : Row w g e L) {j : Nat} {v : Value} (hj : L[j]? = some v) : w.cell? ⟨g, j, none⟩ = some v := by
  unfold Row at h
  simp [World.cell?, h, hj]

theorem Row.frozen {w : World} {g : Nat} {e : TypeId} {L : List Value} (h : Row w g e L) (j : Nat) : w.frozen? ⟨g, j, none⟩ = false := by
  unfold Row at h
  simp [World.frozen?, h]

theorem Row.lt {w : World} {g : Nat} {e : TypeId} {L : List Value} (h : Row w g e L) : g < w.heap.size := (Array.getElem?_eq_some_iff.1 h).1

theorem Row.set {w : World} {g : Nat} {e : TypeId} {L : List Value} (h : Row w g e L) (j : Nat) (v : Value) : Row (w.setCell ⟨g, j, none⟩ v) g e (L.set j v) := by
  unfold Row at *
  rw [setCell_eq_setRow w g j L.toArray e (0, 0) v h, setRow_heap w g _ _ e (0, 0) h]
  simp

theorem Row.other {w : World} {g : Nat} {e : TypeId} {L : List Value} (h : Row w g e L) (p : Addr) (hp : p.block ≠ g) (v : Value) : Row (w.setCell p v) g e L := by
  unfold Row at *
  rw [Below.heap_setCell _ _ _ _ (fun e => hp e.symm)]
  exact h

theorem Row.alloc {w : World} {g : Nat} {e : TypeId} {L : List Value} (h : Row w g e L) (o : Obj) : Row (w.alloc o) g e L := by
  have hl := h.lt
  unfold Row at *
  rw [heap_alloc_old w o hl]
  exact h

theorem Row.new (w : World) (e : TypeId) (L : List Value) : Row (w.alloc (.cells L.toArray e)) w.heap.size e L := heap_alloc_new w _

theorem Row.below {w w' : World} {g B : Nat} {e : TypeId} {L : List Value} (h : Row w g e L) (hb : Below B w w') (hg : g < B) : Row w' g e L := by
  unfold Row at *
  rw [hb.block g hg]
  exact h

theorem Row.grown {w w' : World} {g : Nat} {row : Option Nat} {e : TypeId} {L : List Value} (h : Row w g e L) (hg : w.grownBy w' row) (hne : some g ≠ row) : Row w' g e L := by
  have hl := h.lt
  unfold Row at *
  rw [hg.block g hl hne]
  exact h

theorem Row.drewN {w : World} {g n : Nat} {e : TypeId} {L : List Value} (h : Row w g e L) : Row (w.drewN n) g e L := h

/-- 'make([]T, n)' at an element type of one cell. -/
theorem wpList_make_row {P : Program} (w : World) {ops : Array Oper} {rest : List Oper} {o : Oper} {a : Act} {Q : Exit → Act → World → Prop}
    (hg : o.guard = none) (l c : Operand) (t : TypeId) (hop : o.op = Op.makeSlice t l c)
    (e : TypeId) (i : TypeInfo) (z : Value) (h1 : P.underlying t = some (.slice e)) (h2 : P.info? e = some i) (h3 : i.zero = some z) (h4 : i.size = 1) (hz : z.cells = #[z])
    (kl kc : IntKind) (L C : Int) (n m : Nat) (hl : a.eval l = .int kl L) (hc : a.eval c = .int kc C) (hL : L = (n : Int)) (hC : C = (m : Int)) (hnm : n ≤ m) (b2 : i.bytes * m ≤ 281474976710656) (b3 : m ≤ maxLen)
    (hK : ∀ w', Row w' w.heap.size e (List.replicate m z) → Below w.heap.size w w' → w'.heap.size = w.heap.size + 1 → wpList P ops Q rest (a.put o.dst (.slice (some ⟨w.heap.size, 0, none⟩) n m)) w') :
    wpList P ops Q (o :: rest) a w := by
  refine wpList_plain hg fun K hK' => ?_
  have h63' : (m : Int) ≤ 9223372036854775807 := by
    have h := b3
    simp [maxLen] at h
    omega
  have hb' : (i.bytes : Int) * (m : Int) ≤ 281474976710656 := by
    have h : ((i.bytes * m : Nat) : Int) ≤ 281474976710656 := by omega
    rwa [Int.natCast_mul] at h
  have hr := run_make (P := P) w t e i z h1 h2 h3 kl kc n m (by omega) (by omega) hb' h63'
  simp only [Int.toNat_natCast, h4, Nat.mul_one, hz] at hr
  have em : madeCells #[z] m = (List.replicate m z).toArray := by
    apply Array.ext'
    rw [toList_madeCells_one]
  rw [em] at hr
  subst hL
  subst hC
  unfold Oper.wp
  simp [execOp, hop, hl, hc, hr, Result.andThen]
  exact hK' _ _ (hK _ (Row.new w e _) ((Below.refl _ _).alloc (Nat.le_refl _) _) (by simp))

end Go.Proofs.Qxb6627884aDoor

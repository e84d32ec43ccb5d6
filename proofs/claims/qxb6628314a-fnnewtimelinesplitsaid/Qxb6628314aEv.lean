/-
  THE WALKS of zzEvent (12) and zzEvents (9).
-/
import Derived.Test.Qxb6628314aSub
namespace Go.Proofs.Qxb6628314a
open Go.RowKit

/-- An event of the law's own file, and the event that it stands for. -/
structure Ev where
  seq : Int
  st : ByteArray
  at_ : Int
  by_ : ByteArray
  rs : ByteArray

def Ev.spec (e : Ev) : List Value := [.int .i64 e.seq, .string e.st, .int .i64 e.at_, .string e.by_, .string e.rs]
def Ev.real (e : Ev) : List Value := [.int .i64 e.seq, .string e.st, .int .u64 (e.at_ % 1000000000), .int .i64 (e.at_ / 1000000000), .pointer none, .string e.by_, .string e.rs]
def Ev.fits (e : Ev) : Prop := -9223372036854775808 ≤ e.at_ ∧ e.at_ ≤ 9223372036854775807
def zeroEv : List Value := [.int .i64 0, .string ⟨#[]⟩, .int .u64 0, .int .i64 0, .pointer none, .string ⟨#[]⟩, .string ⟨#[]⟩]

theorem post12 {Q : Ending → World → Prop} {T : Array Value} {W : World} {g : Nat} {n a b : Int} {s t u : ByteArray} (hT : T[2]? = some (.pointer (some ⟨g, 0, none⟩)))
    (R : Row W g 52 [.int .i64 n, .string s, .int .u64 a, .int .i64 b, .pointer none, .string t, .string u])
    (hQ : Q (.returned (.agg #[.int .i64 n, .string s, .int .u64 a, .int .i64 b, .pointer none, .string t, .string u])) W) : bodyPost Try.prog Try.f12 Q .ret { tmps := T, defers := [] } W := by
  have d0 := R.cell (j := 0) rfl
  have d1 := R.cell (j := 1) rfl
  have d2 := R.cell (j := 2) rfl
  have d3 := R.cell (j := 3) rfl
  have d4 := R.cell (j := 4) rfl
  have d5 := R.cell (j := 5) rfl
  have d6 := R.cell (j := 6) rfl
  exact bodyPost_ret (v := .agg #[.int .i64 n, .string s, .int .u64 a, .int .i64 b, .pointer none, .string t, .string u]) (by simp [results, Try.results12, go_sem, hT, d0, d1, d2, d3, d4, d5, d6]) rfl hQ

set_option maxHeartbeats 2000000 in
theorem event_any (n m : Int) (s t u : ByteArray) (w : World) (h0 : -9223372036854775808 ≤ m) (h1 : m ≤ 9223372036854775807) :
    Calls Try.prog 12 #[.agg #[.int .i64 n, .string s, .int .i64 m, .string t, .string u]] w fun x w' => x = .returned (.agg #[.int .i64 n, .string s, .int .u64 (m % 1000000000), .int .i64 (m / 1000000000), .pointer none, .string t, .string u]) ∧ Below w.heap.size w w' := by
  have hat := fun W => at_any m W h0 h1
  obtain ⟨a, ha⟩ : ∃ a, a = m % 1000000000 := ⟨_, rfl⟩
  obtain ⟨b, hb⟩ : ∃ b, b = m / 1000000000 := ⟨_, rfl⟩
  rw [← ha, ← hb] at hat ⊢
  clear ha hb
  go_enter Try.func12, Try.ntmps12
  go_wp2
  obtain ⟨W1, hW1⟩ : ∃ W, W = (w.alloc (.cells #[.int .i64 n, .string s, .int .i64 m, .string t, .string u] 49)).alloc (.cells #[.int .i64 0, .string ⟨#[]⟩, .int .u64 0, .int .i64 0, .pointer none, .string ⟨#[]⟩, .string ⟨#[]⟩] 52) := ⟨_, rfl⟩
  rw [← hW1]
  have r1 : Row W1 w.heap.size 49 [.int .i64 n, .string s, .int .i64 m, .string t, .string u] := by rw [hW1]; exact (Row.new w 49 [.int .i64 n, .string s, .int .i64 m, .string t, .string u]).alloc _
  have r2 : Row W1 (w.heap.size + 1) 52 [.int .i64 0, .string ⟨#[]⟩, .int .u64 0, .int .i64 0, .pointer none, .string ⟨#[]⟩, .string ⟨#[]⟩] := by
    have := Row.new (w.alloc (.cells #[.int .i64 n, .string s, .int .i64 m, .string t, .string u] 49)) 52 [.int .i64 0, .string ⟨#[]⟩, .int .u64 0, .int .i64 0, .pointer none, .string ⟨#[]⟩, .string ⟨#[]⟩]
    rw [hW1]
    simpa using this
  have b1 : Below w.heap.size w W1 := by rw [hW1]; exact ((Below.refl _ _).alloc (Nat.le_refl _) _).alloc (by simp) _
  clear hW1
  have hz1 : w.heap.size < W1.heap.size := r1.lt
  have hz2 : w.heap.size + 1 < W1.heap.size := r2.lt
  have c0 := r1.cell (j := 0) rfl
  have c1 := r1.cell (j := 1) rfl
  have c2 := r1.cell (j := 2) rfl
  have c3 := r1.cell (j := 3) rfl
  have c4 := r1.cell (j := 4) rfl
  have d0 := r2.cell (j := 0) rfl
  have f0 := r2.frozen 0
  have d1 := r2.cell (j := 1) rfl
  have f1 := r2.frozen 1
  have d2 := r2.cell (j := 2) rfl
  have f2 := r2.frozen 2
  have d3 := r2.cell (j := 3) rfl
  have f3 := r2.frozen 3
  have d4 := r2.cell (j := 4) rfl
  have f4 := r2.frozen 4
  have d5 := r2.cell (j := 5) rfl
  have f5 := r2.frozen 5
  have d6 := r2.cell (j := 6) rfl
  have f6 := r2.frozen 6
  go_region_held3 (fun w' => w'.cell? ⟨w.heap.size, 0, none⟩ = some (.int .i64 n) ∧ w'.cell? ⟨w.heap.size, 1, none⟩ = some (.string s) ∧ w'.cell? ⟨w.heap.size, 2, none⟩ = some (.int .i64 m) ∧ w'.cell? ⟨w.heap.size, 3, none⟩ = some (.string t) ∧ w'.cell? ⟨w.heap.size, 4, none⟩ = some (.string u)) (simp [*, go_sem])
    (first | (go_at_call 11; refine (hat W1.drew).mono ?_; rintro x W2 ⟨rfl, hb1⟩; have p0 := (hb1.cell (p := ⟨w.heap.size, 0, none⟩) hz1).trans c0; have p1 := (hb1.cell (p := ⟨w.heap.size, 1, none⟩) hz1).trans c1; have p2 := (hb1.cell (p := ⟨w.heap.size, 2, none⟩) hz1).trans c2; have p3 := (hb1.cell (p := ⟨w.heap.size, 3, none⟩) hz1).trans c3; have p4 := (hb1.cell (p := ⟨w.heap.size, 4, none⟩) hz1).trans c4; have q0 := (hb1.cell (p := ⟨w.heap.size + 1, 0, none⟩) hz2).trans d0; have z0 := (hb1.frozen (p := ⟨w.heap.size + 1, 0, none⟩) hz2).trans f0; have q1 := (hb1.cell (p := ⟨w.heap.size + 1, 1, none⟩) hz2).trans d1; have z1 := (hb1.frozen (p := ⟨w.heap.size + 1, 1, none⟩) hz2).trans f1; have q2 := (hb1.cell (p := ⟨w.heap.size + 1, 2, none⟩) hz2).trans d2; have z2 := (hb1.frozen (p := ⟨w.heap.size + 1, 2, none⟩) hz2).trans f2; have q3 := (hb1.cell (p := ⟨w.heap.size + 1, 3, none⟩) hz2).trans d3; have z3 := (hb1.frozen (p := ⟨w.heap.size + 1, 3, none⟩) hz2).trans f3; have q4 := (hb1.cell (p := ⟨w.heap.size + 1, 4, none⟩) hz2).trans d4; have z4 := (hb1.frozen (p := ⟨w.heap.size + 1, 4, none⟩) hz2).trans f4; have q5 := (hb1.cell (p := ⟨w.heap.size + 1, 5, none⟩) hz2).trans d5; have z5 := (hb1.frozen (p := ⟨w.heap.size + 1, 5, none⟩) hz2).trans f5; have q6 := (hb1.cell (p := ⟨w.heap.size + 1, 6, none⟩) hz2).trans d6; have z6 := (hb1.frozen (p := ⟨w.heap.size + 1, 6, none⟩) hz2).trans f6))
  have hD : Below W1.heap.size W1 W2 := (show Below W1.heap.size W1 W1.drew from (Below.refl _ _).drew).trans (by assumption)
  have r3 := r2.below hD r2.lt
  have hF := b1.trans (hD.mono b1.size)
  go_wp2
  have hl : w.heap.size ≤ w.heap.size + 1 := by omega
  exact post12 rfl (((((((r3.set 0 _).set 1 _).set 2 _).set 3 _).set 4 _).set 5 _).set 6 _) ⟨rfl, ((((((hF.setCell hl _).setCell hl _).setCell hl _).setCell hl _).setCell hl _).setCell hl _).setCell hl _⟩

end Go.Proofs.Qxb6628314a

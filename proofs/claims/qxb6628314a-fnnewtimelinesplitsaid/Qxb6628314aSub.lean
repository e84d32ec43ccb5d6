/-
  THE WALKS of Time.Equal (24) at two equal instants, ZZat (11), Time.Sub (18).
-/
import Derived.Test.Qxb6628314aTime
import Derived.Deep.RegionHeld3
namespace Go.Proofs.Qxb6628314a
open Go.RowKit

theorem and_small (a b : Int) (h0 : 0 ≤ a) (h1 : a < 1000000000) (k0 : 0 ≤ b) (k1 : b < 1000000000) : bits .and .u64 (bits .and .u64 a b) 9223372036854775808 = 0 := by
  rw [u64_and a b h0 (by omega) k0 (by omega)]
  have h : a.toNat &&& b.toNat ≤ a.toNat := Nat.and_le_left
  exact and63 _ (by omega) (by omega)

set_option maxHeartbeats 1000000 in
theorem equal_any (a e : Int) (w : World) (h0 : 0 ≤ a) (h1 : a < 1000000000) :
    Calls Try.prog 24 #[.agg #[.int .u64 a, .int .i64 e, .pointer none], .agg #[.int .u64 a, .int .i64 e, .pointer none]] w fun x w' => x = .returned (.bool true) ∧ Below w.heap.size w w' := by
  have hB : Below w.heap.size w ((w.alloc (.cells #[.int .u64 a, .int .i64 e, .pointer none] 34)).alloc (.cells #[.int .u64 a, .int .i64 e, .pointer none] 34)) := ((Below.refl _ _).alloc (Nat.le_refl _) _).alloc (by simp) _
  have hb := and_small a a h0 h1 h0 h1
  go_enter Try.func24, Try.ntmps24
  go_wp2_with fail
  obtain ⟨W1, hW1⟩ : ∃ W, W = (w.alloc (.cells #[.int .u64 a, .int .i64 e, .pointer none] 34)).alloc (.cells #[.int .u64 a, .int .i64 e, .pointer none] 34) := ⟨_, rfl⟩
  rw [← hW1] at hB ⊢
  have r1 : Row W1 w.heap.size 34 [.int .u64 a, .int .i64 e, .pointer none] := by rw [hW1]; exact (Row.new w 34 [.int .u64 a, .int .i64 e, .pointer none]).alloc _
  have r2 : Row W1 (w.heap.size + 1) 34 [.int .u64 a, .int .i64 e, .pointer none] := by
    have := Row.new (w.alloc (.cells #[.int .u64 a, .int .i64 e, .pointer none] 34)) 34 [.int .u64 a, .int .i64 e, .pointer none]
    rw [hW1]
    simpa using this
  clear hW1
  refine (sec_any w.heap.size a e W1 h0 h1 (r1.cell (j := 0) rfl) (r1.cell (j := 1) rfl)).mono ?_
  rintro x W2 ⟨rfl, rfl⟩
  go_wp2_with fail
  refine (sec_any (w.heap.size + 1) a e W1 h0 h1 (r2.cell (j := 0) rfl) (r2.cell (j := 1) rfl)).mono ?_
  rintro x W2 ⟨rfl, rfl⟩
  go_wp2_with fail
  refine (nsec_any w.heap.size a W1 h0 h1 (r1.cell (j := 0) rfl)).mono ?_
  rintro x W2 ⟨rfl, rfl⟩
  go_wp2_with fail
  refine (nsec_any (w.heap.size + 1) a W1 h0 h1 (r2.cell (j := 0) rfl)).mono ?_
  rintro x W2 ⟨rfl, rfl⟩
  go_wp2
  go_ret
  exact ⟨rfl, hB⟩

theorem post11 {Q : Ending → World → Prop} {T : Array Value} {W : World} {g : Nat} {a e : Int} (hT : T[2]? = some (.pointer (some ⟨g, 0, none⟩)))
    (R : Row W g 34 [.int .u64 a, .int .i64 e, .pointer none]) (hQ : Q (.returned (.agg #[.int .u64 a, .int .i64 e, .pointer none])) W) : bodyPost Try.prog Try.f11 Q .ret { tmps := T, defers := [] } W := by
  have d0 := R.cell (j := 0) rfl
  have d1 := R.cell (j := 1) rfl
  have d2 := R.cell (j := 2) rfl
  exact bodyPost_ret (v := .agg #[.int .u64 a, .int .i64 e, .pointer none]) (by simp [results, Try.results11, go_sem, hT, d0, d1, d2]) rfl hQ

/-- ZZat (11). -/
theorem at_any (n : Int) (w : World) (h0 : -9223372036854775808 ≤ n) (h1 : n ≤ 9223372036854775807) :
    Calls Try.prog 11 #[.int .i64 n] w fun x w' => x = .returned (.agg #[.int .u64 (n % 1000000000), .int .i64 (n / 1000000000), .pointer none]) ∧ Below w.heap.size w w' := by
  have hB : Below w.heap.size w (w.alloc (.cells #[.int .u64 0, .int .i64 0, .pointer none] 34)) := (Below.refl _ _).alloc (Nat.le_refl _) _
  have r0 := Row.new w 34 [.int .u64 0, .int .i64 0, .pointer none]
  obtain ⟨a, ha⟩ : ∃ a, a = n % 1000000000 := ⟨_, rfl⟩
  obtain ⟨e, he⟩ : ∃ e, e = n / 1000000000 := ⟨_, rfl⟩
  have ha0 : 0 ≤ a := by omega
  have ha1 : a < 1000000000 := by omega
  have hs : e * 1000000000 + a = 0 * 1000000000 + 0 + n := by omega
  have hadd := fun W => add_any 0 0 n a e W (by omega) (by omega) (by omega) (by omega) h0 h1 ha0 ha1 hs
  rw [← ha, ← he]
  clear ha he hs
  go_enter Try.func11, Try.ntmps11
  go_wp2_with fail
  refine (hadd _).mono ?_
  rintro x W1 ⟨rfl, hb⟩
  have r1 := r0.below hb (by simp)
  have hB1 := hB.trans (hb.mono (by simp))
  clear hb hB r0 hadd
  have d0 := r1.cell (j := 0) rfl
  have d1 := r1.cell (j := 1) rfl
  have d2 := r1.cell (j := 2) rfl
  have f0 := r1.frozen 0
  have f1 := r1.frozen 1
  have f2 := r1.frozen 2
  go_wp2
  have hl := Nat.le_refl w.heap.size
  exact post11 rfl (((r1.set 0 _).set 1 _).set 2 _) ⟨rfl, ((hB1.setCell hl _).setCell hl _).setCell hl _⟩

set_option maxHeartbeats 2000000 in
/-- Sub (18). -/
theorem sub_any (a1 e1 a2 e2 : Int) (w : World) (h10 : 0 ≤ a1) (h11 : a1 < 1000000000) (h20 : 0 ≤ a2) (h21 : a2 < 1000000000)
    (k10 : -2400000000 ≤ e1) (k11 : e1 ≤ 2400000000) (k20 : -2400000000 ≤ e2) (k21 : e2 ≤ 2400000000) :
    Calls Try.prog 18 #[.agg #[.int .u64 a1, .int .i64 e1, .pointer none], .agg #[.int .u64 a2, .int .i64 e2, .pointer none]] w fun x w' => x = .returned (.int .i64 ((e1 - e2) * 1000000000 + (a1 - a2))) ∧ Below w.heap.size w w' := by
  have hB : Below w.heap.size w ((w.alloc (.cells #[.int .u64 a1, .int .i64 e1, .pointer none] 34)).alloc (.cells #[.int .u64 a2, .int .i64 e2, .pointer none] 34)) := ((Below.refl _ _).alloc (Nat.le_refl _) _).alloc (by simp) _
  have hb := and_small a1 a2 h10 h11 h20 h21
  go_enter Try.func18, Try.ntmps18
  go_wp2_with fail
  obtain ⟨W1, hW1⟩ : ∃ W, W = (w.alloc (.cells #[.int .u64 a1, .int .i64 e1, .pointer none] 34)).alloc (.cells #[.int .u64 a2, .int .i64 e2, .pointer none] 34) := ⟨_, rfl⟩
  rw [← hW1] at hB ⊢
  have r1 : Row W1 w.heap.size 34 [.int .u64 a1, .int .i64 e1, .pointer none] := by rw [hW1]; exact (Row.new w 34 [.int .u64 a1, .int .i64 e1, .pointer none]).alloc _
  have r2 : Row W1 (w.heap.size + 1) 34 [.int .u64 a2, .int .i64 e2, .pointer none] := by
    have := Row.new (w.alloc (.cells #[.int .u64 a1, .int .i64 e1, .pointer none] 34)) 34 [.int .u64 a2, .int .i64 e2, .pointer none]
    rw [hW1]
    simpa using this
  clear hW1
  refine (sec_any w.heap.size a1 e1 W1 h10 h11 (r1.cell (j := 0) rfl) (r1.cell (j := 1) rfl)).mono ?_
  rintro x W2 ⟨rfl, rfl⟩
  go_wp2_with fail
  refine (sec_any (w.heap.size + 1) a2 e2 W1 h20 h21 (r2.cell (j := 0) rfl) (r2.cell (j := 1) rfl)).mono ?_
  rintro x W2 ⟨rfl, rfl⟩
  go_wp2_with fail
  refine (nsec_any w.heap.size a1 W1 h10 h11 (r1.cell (j := 0) rfl)).mono ?_
  rintro x W2 ⟨rfl, rfl⟩
  go_wp2_with fail
  refine (nsec_any (w.heap.size + 1) a2 W1 h20 h21 (r2.cell (j := 0) rfl)).mono ?_
  rintro x W2 ⟨rfl, rfl⟩
  have d0 := r1.cell (j := 0) rfl
  have d1 := r1.cell (j := 1) rfl
  have d2 := r1.cell (j := 2) rfl
  have c0 := r2.cell (j := 0) rfl
  have c1 := r2.cell (j := 1) rfl
  have c2 := r2.cell (j := 2) rfl
  have hz1 : w.heap.size < W1.heap.size := r1.lt
  have hz2 : w.heap.size + 1 < W1.heap.size := r2.lt
  have hadd := fun W => add_any a2 e2 ((e1 - e2) * 1000000000 + (a1 - a2)) a1 e1 W h20 h21 (by omega) (by omega) (by omega) (by omega) h10 h11 (by omega)
  go_wp2
  go_region_held3 (fun w' => w'.cell? ⟨w.heap.size, 0, none⟩ = some (.int .u64 a1) ∧ w'.cell? ⟨w.heap.size, 1, none⟩ = some (.int .i64 e1) ∧ w'.cell? ⟨w.heap.size, 2, none⟩ = some (.pointer none) ∧ w'.cell? ⟨w.heap.size + 1, 0, none⟩ = some (.int .u64 a2) ∧ w'.cell? ⟨w.heap.size + 1, 1, none⟩ = some (.int .i64 e2) ∧ w'.cell? ⟨w.heap.size + 1, 2, none⟩ = some (.pointer none)) (simp [*, go_sem])
    (first | (go_at_call 19; refine (hadd W1.drew).mono ?_; rintro x Wa ⟨rfl, hba⟩; have sza := hba.size; have p0 := (hba.cell (p := ⟨w.heap.size, 0, none⟩) hz1).trans d0; have p1 := (hba.cell (p := ⟨w.heap.size, 1, none⟩) hz1).trans d1; have p2 := (hba.cell (p := ⟨w.heap.size, 2, none⟩) hz1).trans d2; have p3 := (hba.cell (p := ⟨w.heap.size + 1, 0, none⟩) hz2).trans c0; have p4 := (hba.cell (p := ⟨w.heap.size + 1, 1, none⟩) hz2).trans c1; have p5 := (hba.cell (p := ⟨w.heap.size + 1, 2, none⟩) hz2).trans c2)
           | (go_at_call 24; refine (equal_any a1 e1 _ h10 h11).mono ?_; rintro x Wb ⟨rfl, hbb⟩; have q0 := (hbb.cell (p := ⟨w.heap.size, 0, none⟩) (Nat.lt_of_lt_of_le hz1 sza)).trans p0; have q1 := (hbb.cell (p := ⟨w.heap.size, 1, none⟩) (Nat.lt_of_lt_of_le hz1 sza)).trans p1; have q2 := (hbb.cell (p := ⟨w.heap.size, 2, none⟩) (Nat.lt_of_lt_of_le hz1 sza)).trans p2; have q3 := (hbb.cell (p := ⟨w.heap.size + 1, 0, none⟩) (Nat.lt_of_lt_of_le hz2 sza)).trans p3; have q4 := (hbb.cell (p := ⟨w.heap.size + 1, 1, none⟩) (Nat.lt_of_lt_of_le hz2 sza)).trans p4; have q5 := (hbb.cell (p := ⟨w.heap.size + 1, 2, none⟩) (Nat.lt_of_lt_of_le hz2 sza)).trans p5))
  have hD : Below W1.heap.size W1 Wa := (show Below W1.heap.size W1 W1.drew from (Below.refl _ _).drew).trans (by assumption)
  have hE : Below Wa.heap.size Wa Wb := by assumption
  have hF := hB.trans ((hD.trans (hE.mono hD.size)).mono hB.size)
  go_wp2
  go_ret
  exact ⟨rfl, hF⟩

end Go.Proofs.Qxb6628314a

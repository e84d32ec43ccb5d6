/-
  THE WALKS of time.Time's methods, at instants without a monotonic reading.
-/
import Derived.Test.Qxb6628314aProg
import Derived.Test.Qxb6628314aMem
import Derived.Lib.Hide
import Derived.RegionTactic
import Derived.ChangeAlike
import Derived.Deep.QuietTactic
import Derived.BigQuiet
import Derived.BigRegion
import Derived.Laws.BitsAllLaws
namespace Go.Proofs.Qxb6628314a
open Go.RowKit

theorem and30 (a : Int) (h0 : 0 ≤ a) (h1 : a < 1000000000) : bits .and .u64 a 1073741823 = a := by
  rw [u64_and a 1073741823 h0 (by omega) (by omega) (by omega)]
  have : a.toNat &&& (1073741823 : Int).toNat = a.toNat := by
    rw [show (1073741823 : Int).toNat = 2 ^ 30 - 1 from rfl, Nat.and_two_pow_sub_one_eq_mod]
    omega
  rw [this]
  omega
theorem and63 (a : Int) (h0 : 0 ≤ a) (h1 : a < 1000000000) : bits .and .u64 a 9223372036854775808 = 0 := by
  rw [u64_and a 9223372036854775808 h0 (by omega) (by omega) (by omega)]
  have : a.toNat &&& (9223372036854775808 : Int).toNat = 0 := by
    rw [show (9223372036854775808 : Int).toNat = 2 ^ 63 from rfl]
    apply Nat.eq_of_testBit_eq
    intro i
    rw [Nat.testBit_and, Nat.zero_testBit, Nat.testBit_two_pow]
    by_cases hi : 63 = i
    · subst hi
      rw [Nat.testBit_lt_two_pow (by omega)]
      rfl
    · simp [hi]
  rw [this]
  rfl
theorem andNot30 (a : Int) (h0 : 0 ≤ a) (h1 : a < 1000000000) : bits .andNot .u64 a 1073741823 = 0 := by
  rw [u64_andNot a 1073741823 h0 (by omega) (by omega) (by omega)]
  have : a.toNat &&& (18446744073709551615 - (1073741823 : Int).toNat) = 0 := by
    rw [show 18446744073709551615 - (1073741823 : Int).toNat = (2 ^ 34 - 1) * 2 ^ 30 from rfl]
    apply Nat.eq_of_testBit_eq
    intro i
    rw [Nat.testBit_and, Nat.zero_testBit, Nat.testBit_mul_two_pow]
    by_cases hi : i < 30
    · simp; omega
    · rw [Nat.testBit_lt_two_pow (x := a.toNat) (i := i) (Nat.lt_of_lt_of_le (show a.toNat < 2 ^ 30 by omega) (Nat.pow_le_pow_right (by omega) (by omega)))]
      rfl
  rw [this]
  rfl
theorem or0 (a : Int) (h0 : 0 ≤ a) (h1 : a < 1000000000) : bits .or .u64 0 a = a := by
  rw [u64_or 0 a (by omega) (by omega) h0 (by omega)]
  simp
  omega

/-- nsec (23). -/
theorem nsec_any (g : Nat) (a : Int) (w : World) (h0 : 0 ≤ a) (h1 : a < 1000000000) (hc : w.cell? ⟨g, 0, none⟩ = some (.int .u64 a)) :
    Calls Try.prog 23 #[.pointer (some ⟨g, 0, none⟩)] w fun e w' => e = .returned (.int .i32 a) ∧ w = w' := by
  have hb := and30 a h0 h1
  go_enter Try.func23, Try.ntmps23
  go_wp2
  go_ret
  exact ⟨rfl, rfl⟩

/-- sec (22). -/
theorem sec_any (g : Nat) (a e : Int) (w : World) (h0 : 0 ≤ a) (h1 : a < 1000000000) (hc : w.cell? ⟨g, 0, none⟩ = some (.int .u64 a)) (hd : w.cell? ⟨g, 1, none⟩ = some (.int .i64 e)) :
    Calls Try.prog 22 #[.pointer (some ⟨g, 0, none⟩)] w fun e' w' => e' = .returned (.int .i64 e) ∧ w = w' := by
  have hb := and63 a h0 h1
  go_enter Try.func22, Try.ntmps22
  go_wp2
  go_ret
  exact ⟨rfl, rfl⟩

/-- addSec (26). -/
theorem addSec_any (g : Nat) (a e d : Int) (w : World) (h0 : 0 ≤ a) (h1 : a < 1000000000) (he0 : -4611686018427387904 ≤ e) (he1 : e ≤ 4611686018427387904) (hd0 : -4611686018427387903 ≤ d) (hd1 : d ≤ 4611686018427387903)
    (hc : w.cell? ⟨g, 0, none⟩ = some (.int .u64 a)) (hd : w.cell? ⟨g, 1, none⟩ = some (.int .i64 e)) (hf : w.frozen? ⟨g, 1, none⟩ = false) :
    Calls Try.prog 26 #[.pointer (some ⟨g, 0, none⟩), .int .i64 d] w fun e' w' => e' = .returned (.tuple #[]) ∧ w.setCell ⟨g, 1, none⟩ (.int .i64 (e + d)) = w' := by
  have hb := and63 a h0 h1
  by_cases hp : 0 < d
  · have hq : e < e + d := by omega
    go_enter Try.func26, Try.ntmps26
    go_wp2
    go_end0
    exact ⟨rfl, rfl⟩
  · have hq : ¬ e < e + d := by omega
    go_enter Try.func26, Try.ntmps26
    go_wp2
    go_end0
    exact ⟨rfl, rfl⟩

/-- An instant: nanoseconds within the second, seconds since Go's zero time, UTC. -/
def tm (a e : Int) : Value := .agg #[.int .u64 a, .int .i64 e, .pointer none]

theorem post19 {Q : Ending → World → Prop} {T : Array Value} {W : World} {g : Nat} {a e : Int} (hT : T[4]? = some (.pointer (some ⟨g, 0, none⟩)))
    (R : Row W g 34 [.int .u64 a, .int .i64 e, .pointer none]) (hQ : Q (.returned (.agg #[.int .u64 a, .int .i64 e, .pointer none])) W) : bodyPost Try.prog Try.f19 Q .ret { tmps := T, defers := [] } W := by
  have d0 := R.cell (j := 0) rfl
  have d1 := R.cell (j := 1) rfl
  have d2 := R.cell (j := 2) rfl
  exact bodyPost_ret (v := .agg #[.int .u64 a, .int .i64 e, .pointer none]) (by simp [results, Try.results19, go_sem, hT, d0, d1, d2]) rfl hQ

set_option maxHeartbeats 2000000 in
/-- Add (19). -/
theorem add_any (a e d a' e' : Int) (w : World) (h0 : 0 ≤ a) (h1 : a < 1000000000) (he0 : -100000000000 ≤ e) (he1 : e ≤ 100000000000) (hd0 : -9223372036854775808 ≤ d) (hd1 : d ≤ 9223372036854775807)
    (h0' : 0 ≤ a') (h1' : a' < 1000000000) (hs : e' * 1000000000 + a' = e * 1000000000 + a + d) :
    Calls Try.prog 19 #[.agg #[.int .u64 a, .int .i64 e, .pointer none], .int .i64 d] w fun x w' => x = .returned (.agg #[.int .u64 a', .int .i64 e', .pointer none]) ∧ Below w.heap.size w w' := by
  obtain ⟨q, hq⟩ : ∃ q, d.tdiv 1000000000 = q := ⟨_, rfl⟩
  obtain ⟨r, hr⟩ : ∃ r, d.tmod 1000000000 = r := ⟨_, rfl⟩
  have hqr : d = 1000000000 * q + r := by rw [← hq, ← hr]; exact (Int.mul_tdiv_add_tmod d 1000000000).symm
  have hqr1 : d ≤ 1000000000 * q + r := by omega
  have hqr2 : 1000000000 * q + r ≤ d := by omega
  have hr1 : r < 1000000000 := by rw [← hr]; exact Int.tmod_lt_of_pos d (by omega)
  have hr0 : -1000000000 < r := by
    rw [← hr]
    have := Int.tmod_lt_of_pos (-d) (show (0 : Int) < 1000000000 by omega)
    rw [Int.neg_tmod] at this
    omega
  have hs1 : e' * 1000000000 + a' ≤ e * 1000000000 + a + d := by omega
  have hs2 : e * 1000000000 + a + d ≤ e' * 1000000000 + a' := by omega
  clear hqr hs
  have hB0 : Below w.heap.size w (w.alloc (.cells #[.int .u64 a, .int .i64 e, .pointer none] 34)) := (Below.refl _ _).alloc (Nat.le_refl _) _
  have ha30 := and30 a h0 h1
  have haN := andNot30 a h0 h1
  by_cases c1 : 1000000000 ≤ a + r
  · obtain rfl : a' = a + r - 1000000000 := by omega
    obtain rfl : e' = e + (q + 1) := by omega
    have ho' := or0 (a + r - 1000000000) h0' h1'
    have h63' := and63 (a + r - 1000000000) h0' h1'
    go_enter Try.func19, Try.ntmps19
    go_wp2_with fail
    obtain ⟨W1, hW1⟩ : ∃ W, W = (w.alloc (.cells #[.int .u64 a, .int .i64 e, .pointer none] 34)).alloc (.cells #[.int .u64 0, .int .i64 0, .pointer none] 34) := ⟨_, rfl⟩
    rw [← hW1]
    have r1 : Row W1 w.heap.size 34 [.int .u64 a, .int .i64 e, .pointer none] := by rw [hW1]; exact (Row.new w 34 [.int .u64 a, .int .i64 e, .pointer none]).alloc _
    have r2 : Row W1 (w.heap.size + 1) 34 [.int .u64 0, .int .i64 0, .pointer none] := by
      have := Row.new (w.alloc (.cells #[.int .u64 a, .int .i64 e, .pointer none] 34)) 34 [.int .u64 0, .int .i64 0, .pointer none]
      rw [hW1]
      simpa using this
    have b1 : Below w.heap.size w W1 := by rw [hW1]; exact hB0.alloc (by simp) _
    have hz : W1.heap.size = w.heap.size + 2 := by rw [hW1]; simp
    clear hW1 hB0
    refine (nsec_any w.heap.size a W1 h0 h1 (r1.cell (j := 0) rfl)).mono ?_
    rintro x W2 ⟨rfl, rfl⟩
    have d0 := r1.cell (j := 0) rfl
    have d1 := r1.cell (j := 1) rfl
    have d2 := r1.cell (j := 2) rfl
    have f0 := r1.frozen 0
    have f1 := r1.frozen 1
    have k0 := r2.cell (j := 0) rfl
    have k1 := r2.cell (j := 1) rfl
    have k2 := r2.cell (j := 2) rfl
    have j0 := r2.frozen 0
    have j1 := r2.frozen 1
    have j2 := r2.frozen 2
    go_wp2_with fail
    have r3 := r1.set 0 (.int .u64 (a + r - 1000000000))
    refine (addSec_any w.heap.size (a + r - 1000000000) e _ _ h0' h1' (by omega) (by omega) (by omega) (by omega) (r3.cell (j := 0) rfl) (r3.cell (j := 1) rfl) (r3.frozen 1)).mono ?_
    rintro x W3 ⟨rfl, rfl⟩
    have n1 : ¬ w.heap.size + 1 = w.heap.size := by omega
    have n2 : ¬ w.heap.size = w.heap.size + 1 := by omega
    go_wp2
    have hl := Nat.le_refl w.heap.size
    have hl1 : w.heap.size ≤ w.heap.size + 1 := by omega
    refine post19 rfl (((((r2.other ⟨w.heap.size, 0, none⟩ n2 _).other ⟨w.heap.size, 1, none⟩ n2 _).set 0 _).set 1 _).set 2 _) ⟨rfl, ?_⟩
    exact ((((b1.setCell hl _).setCell hl _).setCell hl1 _).setCell hl1 _).setCell hl1 _
  by_cases c2 : a + r < 0
  · obtain rfl : a' = a + r + 1000000000 := by omega
    obtain rfl : e' = e + (q - 1) := by omega
    have ho' := or0 (a + r + 1000000000) h0' h1'
    have h63' := and63 (a + r + 1000000000) h0' h1'
    go_enter Try.func19, Try.ntmps19
    go_wp2_with fail
    obtain ⟨W1, hW1⟩ : ∃ W, W = (w.alloc (.cells #[.int .u64 a, .int .i64 e, .pointer none] 34)).alloc (.cells #[.int .u64 0, .int .i64 0, .pointer none] 34) := ⟨_, rfl⟩
    rw [← hW1]
    have r1 : Row W1 w.heap.size 34 [.int .u64 a, .int .i64 e, .pointer none] := by rw [hW1]; exact (Row.new w 34 [.int .u64 a, .int .i64 e, .pointer none]).alloc _
    have r2 : Row W1 (w.heap.size + 1) 34 [.int .u64 0, .int .i64 0, .pointer none] := by
      have := Row.new (w.alloc (.cells #[.int .u64 a, .int .i64 e, .pointer none] 34)) 34 [.int .u64 0, .int .i64 0, .pointer none]
      rw [hW1]
      simpa using this
    have b1 : Below w.heap.size w W1 := by rw [hW1]; exact hB0.alloc (by simp) _
    have hz : W1.heap.size = w.heap.size + 2 := by rw [hW1]; simp
    clear hW1 hB0
    refine (nsec_any w.heap.size a W1 h0 h1 (r1.cell (j := 0) rfl)).mono ?_
    rintro x W2 ⟨rfl, rfl⟩
    have d0 := r1.cell (j := 0) rfl
    have d1 := r1.cell (j := 1) rfl
    have d2 := r1.cell (j := 2) rfl
    have f0 := r1.frozen 0
    have f1 := r1.frozen 1
    have k0 := r2.cell (j := 0) rfl
    have k1 := r2.cell (j := 1) rfl
    have k2 := r2.cell (j := 2) rfl
    have j0 := r2.frozen 0
    have j1 := r2.frozen 1
    have j2 := r2.frozen 2
    go_wp2_with fail
    have r3 := r1.set 0 (.int .u64 (a + r + 1000000000))
    refine (addSec_any w.heap.size (a + r + 1000000000) e _ _ h0' h1' (by omega) (by omega) (by omega) (by omega) (r3.cell (j := 0) rfl) (r3.cell (j := 1) rfl) (r3.frozen 1)).mono ?_
    rintro x W3 ⟨rfl, rfl⟩
    have n1 : ¬ w.heap.size + 1 = w.heap.size := by omega
    have n2 : ¬ w.heap.size = w.heap.size + 1 := by omega
    go_wp2
    have hl := Nat.le_refl w.heap.size
    have hl1 : w.heap.size ≤ w.heap.size + 1 := by omega
    refine post19 rfl (((((r2.other ⟨w.heap.size, 0, none⟩ n2 _).other ⟨w.heap.size, 1, none⟩ n2 _).set 0 _).set 1 _).set 2 _) ⟨rfl, ?_⟩
    exact ((((b1.setCell hl _).setCell hl _).setCell hl1 _).setCell hl1 _).setCell hl1 _
  · obtain rfl : a' = a + r := by omega
    obtain rfl : e' = e + q := by omega
    have ho' := or0 (a + r) h0' h1'
    have h63' := and63 (a + r) h0' h1'
    go_enter Try.func19, Try.ntmps19
    go_wp2_with fail
    obtain ⟨W1, hW1⟩ : ∃ W, W = (w.alloc (.cells #[.int .u64 a, .int .i64 e, .pointer none] 34)).alloc (.cells #[.int .u64 0, .int .i64 0, .pointer none] 34) := ⟨_, rfl⟩
    rw [← hW1]
    have r1 : Row W1 w.heap.size 34 [.int .u64 a, .int .i64 e, .pointer none] := by rw [hW1]; exact (Row.new w 34 [.int .u64 a, .int .i64 e, .pointer none]).alloc _
    have r2 : Row W1 (w.heap.size + 1) 34 [.int .u64 0, .int .i64 0, .pointer none] := by
      have := Row.new (w.alloc (.cells #[.int .u64 a, .int .i64 e, .pointer none] 34)) 34 [.int .u64 0, .int .i64 0, .pointer none]
      rw [hW1]
      simpa using this
    have b1 : Below w.heap.size w W1 := by rw [hW1]; exact hB0.alloc (by simp) _
    have hz : W1.heap.size = w.heap.size + 2 := by rw [hW1]; simp
    clear hW1 hB0
    refine (nsec_any w.heap.size a W1 h0 h1 (r1.cell (j := 0) rfl)).mono ?_
    rintro x W2 ⟨rfl, rfl⟩
    have d0 := r1.cell (j := 0) rfl
    have d1 := r1.cell (j := 1) rfl
    have d2 := r1.cell (j := 2) rfl
    have f0 := r1.frozen 0
    have f1 := r1.frozen 1
    have k0 := r2.cell (j := 0) rfl
    have k1 := r2.cell (j := 1) rfl
    have k2 := r2.cell (j := 2) rfl
    have j0 := r2.frozen 0
    have j1 := r2.frozen 1
    have j2 := r2.frozen 2
    go_wp2_with fail
    have r3 := r1.set 0 (.int .u64 (a + r))
    refine (addSec_any w.heap.size (a + r) e _ _ h0' h1' (by omega) (by omega) (by omega) (by omega) (r3.cell (j := 0) rfl) (r3.cell (j := 1) rfl) (r3.frozen 1)).mono ?_
    rintro x W3 ⟨rfl, rfl⟩
    have n1 : ¬ w.heap.size + 1 = w.heap.size := by omega
    have n2 : ¬ w.heap.size = w.heap.size + 1 := by omega
    go_wp2
    have hl := Nat.le_refl w.heap.size
    have hl1 : w.heap.size ≤ w.heap.size + 1 := by omega
    refine post19 rfl (((((r2.other ⟨w.heap.size, 0, none⟩ n2 _).other ⟨w.heap.size, 1, none⟩ n2 _).set 0 _).set 1 _).set 2 _) ⟨rfl, ?_⟩
    exact ((((b1.setCell hl _).setCell hl _).setCell hl1 _).setCell hl1 _).setCell hl1 _

end Go.Proofs.Qxb6628314a

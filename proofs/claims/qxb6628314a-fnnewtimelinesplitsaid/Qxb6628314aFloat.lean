/-
  THE FLOAT OF A NUMBER OF HUNDREDTHS: k / 100 is never a NaN, so it equals itself.
-/
import Derived.Laws.FloatArith
import Derived.KernelRfl
namespace Go.Proofs.Qxb6628314a

theorem read_word (f : Ieee.Format) (neg : Bool) (rung : Nat) (h : rung ≤ f.infRung) : (f.read (f.word neg rung)).isNaN = false := by
  have hlt := f.infRung_lt
  have hm : f.word neg rung % f.signWeight = rung := by
    unfold Ieee.Format.word
    split
    · rw [Nat.add_mod_left, Nat.mod_eq_of_lt (by omega)]
    · exact Nat.mod_eq_of_lt (by omega)
  unfold Ieee.Format.read
  simp only [hm]
  split
  · rfl
  · split
    · rfl
    · split
      · rfl
      · omega

theorem read_nearest (f : Ieee.Format) (neg : Bool) (mag : Nat) (place : Int) : (f.read (f.nearest neg mag place)).isNaN = false := by
  unfold Ieee.Format.nearest
  dsimp only
  split
  · exact read_word f neg 0 (Nat.zero_le _)
  · exact read_word f neg _ (Nat.min_le_right ..)

theorem read_write (f : Ieee.Format) (d : Ieee.Datum) (h : d.isNaN = false) : (f.read (f.write d)).isNaN = false := by
  cases d with
  | number neg mag place => exact read_nearest f neg mag place
  | infinity neg => exact read_word f neg _ (Nat.le_refl _)
  | nan neg fr => cases h

theorem quotient_ok (digits : Nat) (x : Ieee.Datum) (n : Nat) (s : Bool) (j : Int) (hx : x.isNaN = false) (hn : n ≠ 0) : ∃ d, x.quotient digits (.number s n j) = some d ∧ d.isNaN = false := by
  cases x with
  | number neg mag place => exact ⟨_, if_neg hn, rfl⟩
  | infinity neg => exact ⟨_, rfl, rfl⟩
  | nan neg fr => cases hx

theorem order_self (d : Ieee.Datum) (h : d.isNaN = false) : d.order d = some .eq := by
  cases d with
  | number neg mag place => simp [Ieee.Datum.order, compare, compareOfLessAndEq]
  | infinity neg => simp [Ieee.Datum.order, compare, compareOfLessAndEq]
  | nan neg fr => cases h

/-- 100, as a float64. -/
def C100 : Nat := 4636737291354636288

theorem read100 : ∃ n j, n ≠ 0 ∧ Ieee.double.read C100 = .number false n j := ⟨7036874417766400, -46, by decide, by kernel_rfl⟩

theorem div100 (k : Int) : ∃ r, floatBits .quo .f64 (floatOfInt .f64 k) C100 = some r ∧ Op.floatEq .f64 r r = true := by
  obtain ⟨n, j, hn, hr⟩ := read100
  obtain ⟨d, hd, hdn⟩ := quotient_ok (Ieee.double.fractionBits + 2) (Ieee.double.read (floatOfInt .f64 k)) n false j (read_nearest Ieee.double _ _ _) hn
  refine ⟨Ieee.double.write d, ?_, ?_⟩
  · show Ieee.double.div (floatOfInt .f64 k) C100 = _
    unfold Ieee.Format.div
    rw [hr, hd]
    rfl
  · show (Ieee.double.order (Ieee.double.write d) (Ieee.double.write d) == some .eq) = true
    unfold Ieee.Format.order
    rw [order_self _ (read_write _ _ hdn)]
    rfl

/-- k hundredths, as a float64's bits. -/
def hund (k : Int) : Nat := (floatBits .quo .f64 (floatOfInt .f64 k) C100).getD 0
theorem hund_ok (k : Int) : floatBits .quo .f64 (floatOfInt .f64 k) 4636737291354636288 = some (hund k) := by
  obtain ⟨r, h, _⟩ := div100 k
  show floatBits .quo .f64 (floatOfInt .f64 k) C100 = some (hund k)
  unfold hund
  rw [h]
  rfl
theorem hund_eq (k : Int) : Op.floatEq .f64 (hund k) (hund k) = true := by
  obtain ⟨r, h, h2⟩ := div100 k
  unfold hund
  rw [h]
  exact h2
theorem zero_eq : Op.floatEq .f64 0 0 = true := by kernel_rfl

end Go.Proofs.Qxb6628314a

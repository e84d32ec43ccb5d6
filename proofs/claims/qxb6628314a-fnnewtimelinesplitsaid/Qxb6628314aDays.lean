/-
  THE WALKS of days (17) and zzDays (13): the same float.
-/
import Derived.Test.Qxb6628314aTime
import Derived.Test.Qxb6628314aFloat
namespace Go.Proofs.Qxb6628314a
open Go.RowKit

theorem days_any (d : Int) (w : World) (h0 : -9223372036854775808 ≤ d) (h1 : d ≤ 9223372036854775807) :
    Calls Try.prog 17 #[.int .i64 d] w fun x w' => x = .returned (.float .f64 (hund (d.tdiv 864000000000))) ∧ w = w' := by
  have hf := fun w => run_float_arith (P := Try.prog) w .quo 23 .f64 _ _ _ (hund_ok (d.tdiv 864000000000))
  go_enter Try.func17, Try.ntmps17
  go_wp2
  go_ret
  exact ⟨rfl, rfl⟩

theorem zdays_pos (m : Int) (w : World) (h0 : 0 ≤ m) (h1 : m ≤ 9223372036854775807) :
    Calls Try.prog 13 #[.int .i64 m] w fun x w' => x = .returned (.float .f64 (hund (m.tdiv 864000000000))) ∧ w = w' := by
  obtain ⟨wh, hw⟩ : ∃ wh, m.tdiv 86400000000000 = wh := ⟨_, rfl⟩
  obtain ⟨hu, hh⟩ : ∃ hu, (m - wh * 86400000000000).tdiv 864000000000 = hu := ⟨_, rfl⟩
  have hw' := hw
  have hh' := hh
  rw [Int.tdiv_eq_ediv_of_nonneg (by omega)] at hw'
  have hr0 : 0 ≤ m - wh * 86400000000000 := by omega
  rw [Int.tdiv_eq_ediv_of_nonneg hr0] at hh'
  have hr1 : m - wh * 86400000000000 < 86400000000000 := by omega
  have b1 : 0 ≤ wh := by omega
  have b2 : wh ≤ 106752 := by omega
  have b3 : 0 ≤ hu := by omega
  have b4 : hu ≤ 99 := by omega
  have hk : m.tdiv 864000000000 = wh * 100 + hu := by rw [Int.tdiv_eq_ediv_of_nonneg h0]; omega
  rw [hk]
  have hf := fun w => run_float_arith (P := Try.prog) w .quo 23 .f64 _ _ _ (hund_ok (wh * 100 + hu))
  clear hw' hh' hk
  have hn : ¬ m < 0 := by omega
  go_enter Try.func13, Try.ntmps13
  go_wp2
  go_ret
  exact ⟨rfl, rfl⟩

theorem zdays_neg (m : Int) (w : World) (h0 : 0 < m) (h1 : m ≤ 9223372036854775807) :
    Calls Try.prog 13 #[.int .i64 (-m)] w fun x w' => x = .returned (.float .f64 (hund ((-m).tdiv 864000000000))) ∧ w = w' := by
  obtain ⟨wh, hw⟩ : ∃ wh, m.tdiv 86400000000000 = wh := ⟨_, rfl⟩
  obtain ⟨hu, hh⟩ : ∃ hu, (m - wh * 86400000000000).tdiv 864000000000 = hu := ⟨_, rfl⟩
  have hw' := hw
  have hh' := hh
  rw [Int.tdiv_eq_ediv_of_nonneg (by omega)] at hw'
  have hr0 : 0 ≤ m - wh * 86400000000000 := by omega
  rw [Int.tdiv_eq_ediv_of_nonneg hr0] at hh'
  have hr1 : m - wh * 86400000000000 < 86400000000000 := by omega
  have b1 : 0 ≤ wh := by omega
  have b2 : wh ≤ 106752 := by omega
  have b3 : 0 ≤ hu := by omega
  have b4 : hu ≤ 99 := by omega
  have hk : (-m).tdiv 864000000000 = -(wh * 100 + hu) := by rw [Int.neg_tdiv, Int.tdiv_eq_ediv_of_nonneg (show 0 ≤ m by omega)]; omega
  rw [hk]
  have hf := fun w => run_float_arith (P := Try.prog) w .quo 23 .f64 _ _ _ (hund_ok (-(wh * 100 + hu)))
  clear hw' hh' hk
  have hn : -m < 0 := by omega
  go_enter Try.func13, Try.ntmps13
  go_wp2
  go_ret
  exact ⟨rfl, rfl⟩

theorem zdays_any (d : Int) (w : World) (h0 : -9223372036854775808 < d) (h1 : d ≤ 9223372036854775807) :
    Calls Try.prog 13 #[.int .i64 d] w fun x w' => x = .returned (.float .f64 (hund (d.tdiv 864000000000))) ∧ w = w' := by
  by_cases h : 0 ≤ d
  · exact zdays_pos d w h h1
  · obtain ⟨m, rfl⟩ : ∃ m, d = -m := ⟨-d, by omega⟩
    exact zdays_neg m w (by omega) (by omega)

end Go.Proofs.Qxb6628314a

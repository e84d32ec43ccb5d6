/-
  THE WALK of zzSameInts (11): two rows of the same numbers.
-/
import Derived.Test.Qxb6627884aDoorZz
import Derived.Test.Qxb6627884aDoorParse
import Derived.RegionTactic
import Derived.ChangeAlike
import Derived.Deep.QuietTactic
import Derived.BigQuiet
namespace Go.Proofs.Qxb6627884aDoor
open Go.RowKit

set_option maxHeartbeats 1000000 in
theorem same_any (B B1 : Nat) (pv kv : Value) (ks : List Int) (w : World) (hl : ks.length ≤ 8192) (hp : w.ownsRow B1 2 1 pv ks.length (ints ks)) (hk : KeysAt B w kv ks) :
    Calls Tryd.prog 11 #[pv, kv] w fun e w' => e = .returned (.bool true) ∧ ∃ n, w' = w.drewN n := by
  obtain ⟨pa, pc, rfl⟩ : ∃ pa pc, pv = .slice pa ks.length pc := by
    rcases hp.2 with ⟨rfl, h0⟩ | ⟨g, cap, cur, rfl, _⟩
    · exact ⟨none, 0, by rw [h0]⟩
    · exact ⟨_, _, rfl⟩
  obtain ⟨ka, kc, rfl⟩ : ∃ ka kc, kv = .slice ka ks.length kc := by
    rcases hk with ⟨rfl, rfl⟩ | ⟨kb, off, c, rfl, _⟩
    · exact ⟨none, 0, rfl⟩
    · exact ⟨_, _, rfl⟩
  go_enter Tryd.func11, Tryd.ntmps11
  go_wp2
  go_loopw [5] (fun i wr => ∃ k n : Nat, k ≤ ks.length ∧ i = .int .i64 k ∧ wr = w.drewN n) (fun i _ => ks.length - (intOf i).toNat)
  case atStart => exact ⟨0, 0, Nat.zero_le _, rfl, rfl⟩
  case round =>
    obtain ⟨k, n, hkl, rfl, rfl⟩ := hrel
    by_cases hlt : k < ks.length
    · obtain ⟨x, hx⟩ : ∃ x, x = ks.getD k 0 := ⟨_, rfl⟩
      rcases hk with ⟨_, h2⟩ | ⟨kb, off, c2, h1, hc2, hkb2, hcells⟩
      · exfalso; rw [h2] at hlt; simp at hlt
      rcases hp.2 with ⟨_, h0⟩ | ⟨g, cap, cur, h2, _⟩
      · exfalso; omega
      cases h1
      cases h2
      have hc1 : w.cell? ⟨kb, off + k, none⟩ = some (.int .i64 x) := by rw [hx]; exact hcells k hlt
      have hc3 : w.cell? ⟨g, k, none⟩ = some (.int .i64 x) := by
        have := hp.cells (g := g) rfl k (.int .i64 x) (by rw [hx]; exact ints_at ks k hlt)
        rwa [Addr.add_lit, Nat.zero_add] at this
      have hi1 : (k : Int) < (ks.length : Int) := by omega
      have hne : (x != x) = false := by simp
      clear hx hp hcells
      go_wp2
      go_quiet (fail)
      go_wp2
      go_roundw
      case rel => exact ⟨k + 1, _, by omega, by go_num, rfl⟩
      case measure => simp [intOf]; omega
    · go_wp2
      go_ret
      exact ⟨rfl, _, rfl⟩
end Go.Proofs.Qxb6627884aDoor

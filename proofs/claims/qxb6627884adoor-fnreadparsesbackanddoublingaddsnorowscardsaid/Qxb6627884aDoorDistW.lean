/-
  THE WALK of zzDistinct (function 8).
-/
import Derived.Test.Qxb6627884aDoorDist
namespace Go.Proofs.Qxb6627884aDoor
open Go.RowKit

theorem perm_len {L ks : List Int} (h : L.Perm ks) : L.length = ks.length := h.length_eq

set_option maxHeartbeats 1600000 in
theorem distinct_any (b off c : Nat) (ks : List Int) (w : World) (hl : ks.length ≤ 4096)
    (hc : ∀ j, j < ks.length → w.cell? ⟨b, off + j, none⟩ = some (.int .i64 (ks.getD j 0))) (hb : b < w.heap.size) :
    Calls Tryd.prog 8 #[.slice (some ⟨b, off, none⟩) ks.length c] w fun e w' => e = .returned (.int .i64 (dCount ks)) ∧ Below w.heap.size w w' := by
  obtain ⟨i0, hi, hz0, hz1, hz2⟩ := info_parts Tryd.info3
  go_enter Tryd.func8, Tryd.ntmps8
  go_wp2_with (refine wpList_make_row _ rfl _ _ 22 rfl 3 i0 (.int .i64 0) Tryd.underlying22 hi hz0 hz1 rfl .i64 .i64 _ _ ks.length ks.length rfl rfl rfl rfl (Nat.le_refl _) (by rw [hz2]; omega) (by unfold maxLen; omega) ?_)
  intro w1 hr1 hb1 hs1
  clear hs1
  go_wp2
  go_loopw [4] (fun i wr => ∃ k : Nat, k ≤ ks.length ∧ i = .int .i64 k ∧ Row wr w.heap.size 3 (ints (part ks k)) ∧ Below w.heap.size w wr) (fun i _ => ks.length - (intOf i).toNat)
  case atStart => exact ⟨0, Nat.zero_le _, rfl, by rw [part_zero, ← ints_replicate]; exact hr1, hb1⟩
  case round =>
    obtain ⟨k, hk, rfl, hr, hbl⟩ := hrel
    by_cases hlt : k < ks.length
    · obtain ⟨x, hx⟩ : ∃ x, x = ks.getD k 0 := ⟨_, rfl⟩
      have hcx : wr.cell? ⟨b, off + k, none⟩ = some (.int .i64 x) := by rw [hx]; exact (hbl.cell (by exact hb)).trans (hc k hlt)
      have hfz := hr.frozen k
      obtain ⟨y, hcy⟩ : ∃ y, wr.cell? ⟨w.heap.size, k, none⟩ = some (.int .i64 y) := ⟨_, hr.cell (ints_at _ k (by simp [part]; omega))⟩
      have h2 := hr.set k (.int .i64 x)
      rw [ints_set, hx, part_set _ _ hlt, ← hx] at h2
      have H2 := Lib.hid h2
      clear hx h2
      go_wp2
      go_roundw
      case rel => exact ⟨k + 1, by omega, by go_num, H2.out, hbl.setCell (Nat.le_refl _) _⟩
      case measure => simp [intOf]; omega
    · have hp := part_full ks k (by omega)
      rw [hp] at hr
      clear hp hr1 hb1
      have hk' : k = ks.length := by omega
      subst hk'
      have hl' := hl
      go_wp2
      go_loopw [5] (fun i wr => ∃ (k : Nat) (L : List Int), 1 ≤ k ∧ k ≤ ks.length + 1 ∧ i = .int .i64 k ∧ L.Perm ks ∧ Srt (L.take k) ∧ Row wr w.heap.size 3 (ints L) ∧ Below w.heap.size w wr) (fun i _ => ks.length + 1 - (intOf i).toNat)
      case atStart => exact ⟨1, ks, Nat.le_refl _, by omega, rfl, List.Perm.refl _, srt_take_one _, hr, hbl⟩
      case round =>
        clear hr hbl
        obtain ⟨k, L, hk1, hk, rfl, hpm, hsr, hr, hbl⟩ := hrel
        have hL := Lib.hid (perm_len hpm)
        by_cases hlt : k < ks.length
        · obtain ⟨x, hx⟩ : ∃ x, x = L.getD k 0 := ⟨_, rfl⟩
          have hcx : wr.cell? ⟨w.heap.size, k, none⟩ = some (.int .i64 x) := by rw [hx]; exact hr.cell (ints_at _ k (by have := hL.out; omega))
          have HX := Lib.hid hx
          clear hx
          go_wp2
          go_loopw [7] (fun j wr => ∃ (m : Nat) (h : Int), m ≤ k ∧ j = .int .i64 m ∧ (∀ y ∈ (L.take k).drop m, x < y) ∧ Row wr w.heap.size 3 (ints (hole (L.take k) (L.drop (k + 1)) m h)) ∧ Below w.heap.size w wr) (fun j _ => (intOf j).toNat)
          case atStart =>
            refine ⟨k, x, Nat.le_refl _, rfl, by simp, ?_, hbl⟩
            rw [HX.out, hole_start L k (by have := hL.out; omega)]
            exact hr
          case round =>
            clear hr hbl hcx
            obtain ⟨m, h, hm, rfl, hgt, hr, hbl⟩ := hrel
            have hll : (L.take k).length = k := by have := hL.out; simp; omega
            have hll2 : (hole (L.take k) (L.drop (k + 1)) m h).length = ks.length := by
              rw [hole_length _ _ _ _ (by omega), hll]
              have := hL.out
              simp; omega
            by_cases hm0 : m = 0
            · subst hm0
              have hd : decide ((0 : Int) < ((0 : Nat) : Int)) = false := by simp
              have hcj : wr.cell? ⟨w.heap.size, 0, none⟩ = some (.int .i64 ((hole (L.take k) (L.drop (k + 1)) 0 h).getD 0 0)) := hr.cell (ints_at _ 0 (by omega))
              have hfz := hr.frozen 0
              obtain ⟨y, hy⟩ : ∃ y, y = (hole (L.take k) (L.drop (k + 1)) 0 h).getD 0 0 := ⟨_, rfl⟩
              rw [← hy] at hcj
              have h2 := hr.set 0 (.int .i64 x)
              rw [ints_set, hole_set _ _ _ _ _ (by omega)] at h2
              have H2 := Lib.hid h2
              have HR := round_done L ks k 0 (by have := hL.out; omega) (Nat.zero_le _) hpm hsr (by rw [← HX.out]; exact hgt) (.inl rfl)
              rw [← HX.out] at HR
              have HR := Lib.hid HR
              clear h2 hy hr hll hll2
              go_wp2
              go_roundw
              case rel => exact ⟨k + 1, _, by omega, by omega, by go_num, HR.out.1, HR.out.2, H2.out, hbl.setCell (Nat.le_refl _) _⟩
              case measure => simp [intOf]; omega
            · obtain ⟨m, rfl⟩ : ∃ m', m = m' + 1 := ⟨m - 1, by omega⟩
              obtain ⟨y, hy⟩ : ∃ y, y = (L.take k).getD m 0 := ⟨_, rfl⟩
              have hcm : wr.cell? ⟨w.heap.size, m, none⟩ = some (.int .i64 y) := by
                rw [hy, ← hole_before _ (L.drop (k + 1)) m h (by omega)]
                exact hr.cell (ints_at _ m (by omega))
              obtain ⟨z, hcj⟩ : ∃ z, wr.cell? ⟨w.heap.size, m + 1, none⟩ = some (.int .i64 z) := ⟨_, hr.cell (ints_at _ (m + 1) (by omega))⟩
              have hfz := hr.frozen (m + 1)
              have HY := Lib.hid hy
              by_cases hxy : x < y
              · have h2 := hr.set (m + 1) (.int .i64 y)
                rw [ints_set, hole_set _ _ _ _ _ (by omega), hy, hole_down _ _ _ (by omega), ← hy] at h2
                have H2 := Lib.hid h2
                have HG := Lib.hid (gt_step (L.take k) m x (by omega) hgt (by rw [← hy]; exact hxy))
                clear h2 hy hr hll hll2 hgt
                go_wp2
                go_roundw
                case rel => exact ⟨m, y, by omega, by go_num, HG.out, H2.out, hbl.setCell (Nat.le_refl _) _⟩
                case measure => simp [intOf]
              · have h2 := hr.set (m + 1) (.int .i64 x)
                rw [ints_set, hole_set _ _ _ _ _ (by omega)] at h2
                have H2 := Lib.hid h2
                have HR := round_done L ks k (m + 1) (by have := hL.out; omega) hm hpm hsr (by rw [← HX.out]; exact hgt) (.inr (by rw [← HX.out, Nat.add_sub_cancel, ← hy]; exact hxy))
                rw [← HX.out] at HR
                have HR := Lib.hid HR
                clear h2 hy hr hll hll2 hgt
                go_wp2
                go_roundw
                case rel => exact ⟨k + 1, _, by omega, by omega, by go_num, HR.out.1, HR.out.2, H2.out, hbl.setCell (Nat.le_refl _) _⟩
                case measure => simp [intOf]; omega
        · have hsr2 : Srt L := by
            have e : L.take k = L := List.take_of_length_le (by have := hL.out; omega)
            rw [e] at hsr
            exact hsr
          have HP := Lib.hid (dCount_perm hpm)
          have HS := Lib.hid hsr2
          clear hsr hsr2 hpm
          go_wp2
          go_loopw [8, 9] (fun cc i wr => ∃ k : Nat, k ≤ ks.length ∧ i = .int .i64 k ∧ cc = .int .i64 (dCount (L.take k)) ∧ Row wr w.heap.size 3 (ints L) ∧ Below w.heap.size w wr) (fun _ i _ => ks.length - (intOf i).toNat)
          case atStart => exact ⟨0, Nat.zero_le _, rfl, by simp [dCount, dR], hr, hbl⟩
          case round =>
            clear hr hbl
            obtain ⟨t, ht, rfl, hcc, hr, hbl⟩ := hrel
            have hdl := dCount_le (L.take t)
            have hdl2 : (L.take t).length ≤ t := List.length_take_le _ _
            obtain ⟨d, hd⟩ : ∃ d, d = dCount (L.take t) := ⟨_, rfl⟩
            rw [← hd] at hcc hdl
            subst hcc
            have HD := Lib.hid hd
            clear hd
            by_cases htl : t < ks.length
            · have HC := Lib.hid (count_step L t (by have := hL.out; omega) HS.out)
              obtain ⟨x, hx⟩ : ∃ x, x = L.getD t 0 := ⟨_, rfl⟩
              have hcx : wr.cell? ⟨w.heap.size, t, none⟩ = some (.int .i64 x) := by rw [hx]; exact hr.cell (ints_at _ t (by have := hL.out; omega))
              have HX := Lib.hid hx
              clear hx
              by_cases ht0 : t = 0
              · subst ht0
                have hg0 : ((0 : Int) == 0) = true := rfl
                go_wp2
                go_quiet (fail)
                go_wp2
                go_roundw
                case rel => exact ⟨1, by omega, by go_num, by rw [HC.out, ← HD.out]; simp, hr, below_drewN hbl _⟩
                case measure => simp [intOf]; omega
              · obtain ⟨t, rfl⟩ : ∃ t', t = t' + 1 := ⟨t - 1, by omega⟩
                obtain ⟨y, hy⟩ : ∃ y, y = L.getD t 0 := ⟨_, rfl⟩
                have hcy : wr.cell? ⟨w.heap.size, t, none⟩ = some (.int .i64 y) := by rw [hy]; exact hr.cell (ints_at _ t (by have := hL.out; omega))
                have HY := Lib.hid hy
                clear hy
                have hg0 : ((t : Int) + 1 == 0) = false := by rw [beq_eq_false_iff_ne]; omega
                have hi3 : (0 : Int) ≤ (t : Int) + 1 := by omega
                have hi1 : (t : Int) + 1 < (ks.length : Int) := by omega
                have hi2 : (t : Int) < (ks.length : Int) := by omega
                by_cases hxy : x = y
                · have hne : (x != y) = false := by simp [hxy]
                  have HXY := Lib.hid hxy
                  clear hxy
                  go_wp2
                  go_quiet (fail)
                  go_wp2
                  go_roundw
                  case rel => exact ⟨t + 1 + 1, by omega, by go_num, by rw [HC.out, ← HD.out, Nat.add_sub_cancel, ← HX.out, ← HY.out]; simp [HXY.out], hr, below_drewN hbl _⟩
                  case measure => simp [intOf]; omega
                · have hne : (x != y) = true := by simp [hxy]
                  have HXY := Lib.hid hxy
                  clear hxy
                  go_wp2
                  go_quiet (fail)
                  go_wp2
                  go_roundw
                  case rel => exact ⟨t + 1 + 1, by omega, by go_num, by rw [HC.out, ← HD.out, Nat.add_sub_cancel, ← HX.out, ← HY.out]; simp [HXY.out], hr, below_drewN hbl _⟩
                  case measure => simp [intOf]; omega
            · have e : L.take t = L := List.take_of_length_le (by have := hL.out; omega)
              have HD2 : Hid (d = dCount ks) := by
                have := HD.out
                rw [e, HP.out] at this
                exact this
              clear e
              go_wp2
              go_ret
              refine ⟨?_, hbl⟩
              show Ending.returned (.int .i64 (d : Int)) = _
              rw [HD2.out]
end Go.Proofs.Qxb6627884aDoor

/-
  THE WALKS of zzBytes (4) and zzOver (5): they answer some bool and change nothing.
-/
import Derived.Test.Qxb6628158aSel
namespace Go.Proofs.Qxb6628158a
open Go.RowKit

/-- A requirement as an argument bears it: its strings are of a length that Go can say. -/
def Rq.wide (r : Rq) : Prop := r.key.size ≤ maxLen ∧ r.op.size ≤ maxLen ∧ ∀ s ∈ r.vals, s.size ≤ maxLen

theorem maxLen_le : maxLen ≤ 9223372036854775807 := by unfold maxLen; omega

theorem i64_le {n : Nat} (h : n ≤ maxLen) : (n : Int) ≤ 9223372036854775807 := by have := maxLen_le; omega

theorem add2 (n k : Int) (hn0 : 0 ≤ n) (hn : n ≤ 1048577) (hk0 : 0 ≤ k) (hk : k ≤ 9223372036854775807) (w : World) :
    Calls Try.prog 11 #[.int .i64 n, .int .i64 k] w fun e w' => ∃ m : Int, e = .returned (.int .i64 m) ∧ 0 ≤ m ∧ m ≤ 1048577 ∧ w = w' :=
  (add_any n k hn0 hn hk0 hk w).mono fun _ _ ⟨m, h1, h2, h3, h4⟩ => ⟨m, h1, h2, h3, h4.symm⟩

set_option maxRecDepth 20000 in
set_option maxHeartbeats 4000000 in
theorem over_any (v0 v1 v2 v3 : Value) (ps ls : List (ByteArray × ByteArray)) (rs : List Rq) (ks : List ByteArray) (t u : ByteArray) (p2 p3 : Option Addr) (w : World)
    (h0 : Sl w v0 ps.length 2 (prCells ps)) (hl0 : ps.length ≤ 4096) (z0 : ∀ p ∈ ps, p.1.size ≤ maxLen ∧ p.2.size ≤ maxLen)
    (h1 : ReqsAt w v1 rs) (hl1 : rs.length ≤ 4096) (z1 : ∀ r ∈ rs, r.wide) (h2 : Sl w v2 ks.length 1 (strs ks)) (hl2 : ks.length ≤ 4096) (z2 : ∀ k ∈ ks, k.size ≤ maxLen)
    (h3 : Sl w v3 ls.length 2 (prCells ls)) (hl3 : ls.length ≤ 4096) (z3 : ∀ p ∈ ls, p.1.size ≤ maxLen ∧ p.2.size ≤ maxLen) (ht : t.size ≤ maxLen) (hu : u.size ≤ maxLen)
    (hp2 : ∀ a, p2 = some a → ∃ s, w.cell? a = some (.string s) ∧ s.size ≤ maxLen) (hp3 : ∀ a, p3 = some a → ∃ s, w.cell? a = some (.string s) ∧ s.size ≤ maxLen) :
    Calls Try.prog 5 #[v0, v1, v2, v3, .string t, .string u, .pointer p2, .pointer p3] w fun e w' => (∃ q, e = .returned (.bool q)) ∧ w' = w := by
  obtain ⟨a0, c0, rfl⟩ := h0.shape
  obtain ⟨a1, c1, rfl⟩ := h1.1.shape
  obtain ⟨a2, c2, rfl⟩ := h2.shape
  obtain ⟨a3, c3, rfl⟩ := h3.shape
  have ht' := i64_le ht
  have hu' := i64_le hu
  go_enter Try.func5, Try.ntmps5
  go_upto_if 32 with (first | (go_at_call 11; refine (add2 _ _ (by omega) (by omega) (by omega) (by omega) _).mono ?_; rintro e w1 ⟨m, rfl, hm0, hm1, rfl⟩))
  go_cut [17] (fun n wc => ∃ m : Int, n = .int .i64 m ∧ 0 ≤ m ∧ m ≤ 1048577 ∧ w = wc)
  case first =>
    cases p2 with
    | none => go_wp2; go_meet; exact ⟨_, rfl, by assumption, by assumption, rfl⟩
    | some a =>
      obtain ⟨s, hs, hs2⟩ := hp2 a rfl
      have hs3 := i64_le hs2
      go_wp2_with (first | (go_at_call 11; refine (add2 _ _ (by omega) (by omega) (by omega) (by omega) _).mono ?_; rintro e w1 ⟨m, rfl, hm0, hm1, rfl⟩))
      go_meet
      exact ⟨_, rfl, by assumption, by assumption, rfl⟩
  case rest =>
    obtain ⟨n, rfl, hn0, hn1, rfl⟩ := hcut
    go_upto_if 40 with fail
    go_cut [17] (fun n wc' => ∃ m : Int, n = .int .i64 m ∧ 0 ≤ m ∧ m ≤ 1048577 ∧ w = wc')
    case first =>
      cases p3 with
      | none => go_wp2; go_meet; exact ⟨_, rfl, by assumption, by assumption, rfl⟩
      | some a =>
        obtain ⟨s, hs, hs2⟩ := hp3 a rfl
        have hs3 := i64_le hs2
        go_wp2_with (first | (go_at_call 11; refine (add2 _ _ (by omega) (by omega) (by omega) (by omega) _).mono ?_; rintro e w1 ⟨m, rfl, hm0, hm1, rfl⟩))
        go_meet
        exact ⟨_, rfl, by assumption, by assumption, rfl⟩
    case rest =>
      obtain ⟨n, rfl, hn0, hn1, rfl⟩ := hcut
      go_wp2
      · go_ret
        exact ⟨⟨_, rfl⟩, rfl⟩
      go_loopw [17, 18] (fun v i wr => ∃ (m : Int) (k : Nat), v = .int .i64 m ∧ 0 ≤ m ∧ m ≤ 1048577 ∧ i = .int .i64 k ∧ k ≤ ps.length ∧ w = wr) (fun _ i _ => ps.length - (intOf i).toNat)
      case atStart => exact ⟨n, 0, rfl, hn0, hn1, rfl, Nat.zero_le _, rfl⟩
      case round =>
        obtain ⟨m, k, rfl, hm0, hm1, rfl, hk, rfl⟩ := hrel
        by_cases hlt : k < ps.length
        · obtain ⟨x, hx⟩ : ∃ x, ps[k]? = some x := ⟨_, List.getElem?_eq_getElem hlt⟩
          obtain ⟨q0, q1⟩ := prCells_at ps k x hx
          have zx := z0 x (List.mem_of_getElem? hx)
          have zx1 := i64_le zx.1
          have zx2 := i64_le zx.2
          obtain ⟨b1, o1, c1', e1, _, _, hc1⟩ := h0.at (by rw [prCells_length]; omega)
          cases e1
          have g0 := hc1 _ _ q0
          have g1 := hc1 _ _ q1
          rw [← Nat.add_assoc] at g1
          have hi : (k : Int) < (ps.length : Int) := by omega
          clear hc1 q0 q1 hx
          go_wp2_with (first | (go_at_call 11; refine (add2 _ _ (by omega) (by omega) (by omega) (by omega) _).mono ?_; rintro e w1 ⟨m, rfl, hm0, hm1, rfl⟩))
          · go_ret
            exact ⟨⟨_, rfl⟩, rfl⟩
          go_roundw
          case rel => exact ⟨_, k + 1, rfl, by assumption, by assumption, by go_num, by omega, trivial⟩
          case measure => simp [intOf]; omega
        · go_wp2
          go_loopw [17, 19] (fun v i wr => ∃ (m : Int) (k : Nat), v = .int .i64 m ∧ 0 ≤ m ∧ m ≤ 1048577 ∧ i = .int .i64 k ∧ k ≤ rs.length ∧ w = wr) (fun _ i _ => rs.length - (intOf i).toNat)
          case atStart => exact ⟨_, 0, rfl, by assumption, by assumption, rfl, Nat.zero_le _, rfl⟩
          case round =>
            obtain ⟨m, k, rfl, hm0, hm1, rfl, hk, rfl⟩ := hrel
            by_cases hlt : k < rs.length
            · obtain ⟨x, hx⟩ : ∃ x, rs[k]? = some x := ⟨_, List.getElem?_eq_getElem hlt⟩
              obtain ⟨q0, q1, q2⟩ := rqCells_at rs k x hx
              obtain ⟨zx, zy, zv⟩ := z1 x (List.mem_of_getElem? hx)
              have zx1 := i64_le zx
              have zx2 := i64_le zy
              obtain ⟨b1, o1, c1', e1, _, _, hc1⟩ := h1.1.at (by rw [rqCells_length]; omega)
              cases e1
              have hxo := h1.2 x (List.mem_of_getElem? hx)
              obtain ⟨xk, xo, xv, xs⟩ := x
              obtain ⟨hxl, hxs⟩ := hxo
              obtain ⟨xa, xc, xe⟩ := hxs.shape
              simp only at xe zx1 zx2 zv hxl
              subst xe
              have g0 := hc1 _ _ q0
              have g1 := hc1 _ _ q1
              have g2 := hc1 _ _ q2
              rw [← Nat.add_assoc] at g1 g2
              simp only at g0 g1 g2
              have hi : (k : Int) < (rs.length : Int) := by omega
              clear hc1 q0 q1 q2 hx zx zy
              go_wp2_with (first | (go_at_call 11; refine (add2 _ _ (by omega) (by omega) (by omega) (by omega) _).mono ?_; rintro e w1 ⟨m, rfl, hm0, hm1, rfl⟩))
              · go_ret
                exact ⟨⟨_, rfl⟩, rfl⟩
              go_loopw [17, 21] (fun v i wr => ∃ (m : Int) (j : Nat), v = .int .i64 m ∧ 0 ≤ m ∧ m ≤ 1048577 ∧ i = .int .i64 j ∧ j ≤ xs.length ∧ w = wr) (fun _ i _ => xs.length - (intOf i).toNat)
              case atStart => exact ⟨_, 0, rfl, by assumption, by assumption, rfl, Nat.zero_le _, rfl⟩
              case round =>
                obtain ⟨m, j, rfl, hm0, hm1, rfl, hj, rfl⟩ := hrel
                by_cases hlt2 : j < xs.length
                · obtain ⟨y, hy⟩ : ∃ y, y = xs.getD j emp := ⟨_, rfl⟩
                  have zx := i64_le (zv y (by rw [hy, getD_at _ _ hlt2]; exact List.getElem_mem _))
                  obtain ⟨b2, o2, c2', e2, _, _, hc2⟩ := hxs.at (by rw [strs_length]; omega)
                  cases e2
                  have g3 := hc2 _ _ (strs_at xs j hlt2)
                  rw [← hy] at g3
                  have hi : (j : Int) < (xs.length : Int) := by omega
                  clear hc2 hy
                  go_wp2_with (first | (go_at_call 11; refine (add2 _ _ (by omega) (by omega) (by omega) (by omega) _).mono ?_; rintro e w1 ⟨m, rfl, hm0, hm1, rfl⟩))
                  · go_ret
                    exact ⟨⟨_, rfl⟩, rfl⟩
                  go_roundw
                  case rel => exact ⟨_, j + 1, rfl, by assumption, by assumption, by go_num, by omega, trivial⟩
                  case measure => simp [intOf]; omega
                · go_wp2
                  go_roundw
                  case rel => exact ⟨_, k + 1, rfl, by assumption, by assumption, by go_num, by omega, trivial⟩
                  case measure => simp [intOf]; omega
            · go_wp2
              go_loopw [17, 22] (fun v i wr => ∃ (m : Int) (k : Nat), v = .int .i64 m ∧ 0 ≤ m ∧ m ≤ 1048577 ∧ i = .int .i64 k ∧ k ≤ ks.length ∧ w = wr) (fun _ i _ => ks.length - (intOf i).toNat)
              case atStart => exact ⟨_, 0, rfl, by assumption, by assumption, rfl, Nat.zero_le _, rfl⟩
              case round =>
                obtain ⟨m, k, rfl, hm0, hm1, rfl, hk, rfl⟩ := hrel
                by_cases hlt : k < ks.length
                · obtain ⟨x, hx⟩ : ∃ x, x = ks.getD k emp := ⟨_, rfl⟩
                  have zx := i64_le (z2 x (by rw [hx, getD_at _ _ hlt]; exact List.getElem_mem _))
                  obtain ⟨b1, o1, c1', e1, _, _, hc1⟩ := h2.at (by rw [strs_length]; omega)
                  cases e1
                  have g0 := hc1 _ _ (strs_at ks k hlt)
                  rw [← hx] at g0
                  have hi : (k : Int) < (ks.length : Int) := by omega
                  clear hc1 hx
                  go_wp2_with (first | (go_at_call 11; refine (add2 _ _ (by omega) (by omega) (by omega) (by omega) _).mono ?_; rintro e w1 ⟨m, rfl, hm0, hm1, rfl⟩))
                  · go_ret
                    exact ⟨⟨_, rfl⟩, rfl⟩
                  go_roundw
                  case rel => exact ⟨_, k + 1, rfl, by assumption, by assumption, by go_num, by omega, trivial⟩
                  case measure => simp [intOf]; omega
                · go_wp2

                  go_loopw [17, 23] (fun v i wr => ∃ (m : Int) (k : Nat), v = .int .i64 m ∧ 0 ≤ m ∧ m ≤ 1048577 ∧ i = .int .i64 k ∧ k ≤ ls.length ∧ w = wr) (fun _ i _ => ls.length - (intOf i).toNat)
                  case atStart => exact ⟨_, 0, rfl, by assumption, by assumption, rfl, Nat.zero_le _, rfl⟩
                  case round =>
                    obtain ⟨m, k, rfl, hm0, hm1, rfl, hk, rfl⟩ := hrel
                    by_cases hlt : k < ls.length
                    · obtain ⟨x, hx⟩ : ∃ x, ls[k]? = some x := ⟨_, List.getElem?_eq_getElem hlt⟩
                      obtain ⟨q0, q1⟩ := prCells_at ls k x hx
                      have zx := z3 x (List.mem_of_getElem? hx)
                      have zx1 := i64_le zx.1
                      have zx2 := i64_le zx.2
                      obtain ⟨b1, o1, c1', e1, _, _, hc1⟩ := h3.at (by rw [prCells_length]; omega)
                      cases e1
                      have g0 := hc1 _ _ q0
                      have g1 := hc1 _ _ q1
                      rw [← Nat.add_assoc] at g1
                      have hi : (k : Int) < (ls.length : Int) := by omega
                      clear hc1 q0 q1 hx
                      go_wp2_with (first | (go_at_call 11; refine (add2 _ _ (by omega) (by omega) (by omega) (by omega) _).mono ?_; rintro e w1 ⟨m, rfl, hm0, hm1, rfl⟩))
                      · go_ret
                        exact ⟨⟨_, rfl⟩, rfl⟩
                      go_roundw
                      case rel => exact ⟨_, k + 1, rfl, by assumption, by assumption, by go_num, by omega, trivial⟩
                      case measure => simp [intOf]; omega
                    · go_wp2
                      go_ret
                      exact ⟨⟨_, rfl⟩, rfl⟩


end Go.Proofs.Qxb6628158a

/-
  THE WALKS of the small functions of seat b6628158a: zzStrs (12), zzI32 (13), zzStrP (14), zzAdd (11), slices.Clip (18), slices.Equal (20).
-/
import Derived.Test.Qxb6628158aProg
import Derived.Test.Qxb6628158aMem
import Derived.Lib.Hide
import Derived.RegionTactic
import Derived.ChangeAlike
import Derived.Deep.QuietTactic
import Derived.BigQuiet
namespace Go.Proofs.Qxb6628158a
open Go.RowKit

theorem Try.info9 : (Try.prog.info? 9).map (fun i => (i.zero, i.size, i.bytes)) = some (some (.string ⟨#[]⟩), 1, 16) := by kernel_rfl

def emp : ByteArray := ⟨#[]⟩
/-- Strings as cells. -/
def strs (l : List ByteArray) : List Value := l.map Value.string
theorem strs_length (l : List ByteArray) : (strs l).length = l.length := by simp [strs]
theorem strs_at (l : List ByteArray) (j : Nat) (h : j < l.length) : (strs l)[j]? = some (.string (l.getD j emp)) := by simp [strs, h]
theorem strs_set (l : List ByteArray) (j : Nat) (x : ByteArray) : (strs l).set j (.string x) = strs (l.set j x) := by simp [strs]

def part (ks : List ByteArray) (k : Nat) : List ByteArray := ks.take k ++ List.replicate (ks.length - k) emp
theorem part_zero (ks : List ByteArray) : part ks 0 = List.replicate ks.length emp := by simp [part]
theorem part_full (ks : List ByteArray) (k : Nat) (h : ks.length ≤ k) : part ks k = ks := by
  unfold part
  rw [List.take_of_length_le h, show ks.length - k = 0 by omega]
  simp
theorem part_length (ks : List ByteArray) (k : Nat) (h : k ≤ ks.length) : (part ks k).length = ks.length := by simp [part]; omega
theorem getD_at (l : List ByteArray) (j : Nat) (h : j < l.length) : l.getD j emp = l[j] := by simp [h]
theorem part_set (ks : List ByteArray) (k : Nat) (h : k < ks.length) : (part ks k).set k (ks.getD k emp) = part ks (k + 1) := by
  unfold part
  rw [List.set_append_right _ _ (by simp; omega), show ks.length - k = (ks.length - (k + 1)) + 1 by omega, List.replicate_succ]
  have e : k - (ks.take k).length = 0 := by simp; omega
  rw [e, List.set_cons_zero, List.take_succ_eq_append_getElem h, getD_at _ _ h, List.append_assoc]
  rfl

theorem eqnil24 (W : World) (a : Option Addr) (n c : Nat) : (binOp .eql 24 (.slice a n c) (.slice none 0 0)).run Try.prog W = .ok (.bool a.isNone) W := Lib.run_eql_slice_nil W 24 9 a n c 0 0 Try.underlying24

set_option maxHeartbeats 1000000 in
theorem strs_nil (w : World) :
    Calls Try.prog 12 #[.slice none 0 0] w fun e w' => e = .returned (.slice none 0 0) ∧ w' = w := by
  have hq := eqnil24
  go_enter Try.func12, Try.ntmps12
  go_wp2
  go_ret
  exact ⟨rfl, rfl⟩

set_option maxHeartbeats 1000000 in
theorem strs_some (ad : Addr) (c : Nat) (ss : List ByteArray) (w : World) (hl : ss.length ≤ 1048576) (h : ∀ j u, (strs ss)[j]? = some u → w.cell? (ad.add j) = some u) :
    Calls Try.prog 12 #[.slice (some ad) ss.length c] w fun e w' => e = .returned (.slice (some ⟨w.heap.size, 0, none⟩) ss.length ss.length) ∧ Row w' w.heap.size 9 (strs ss) ∧ Below w.heap.size w w' := by
  obtain ⟨i0, hi, hz0, hz1, hz2⟩ := info_parts Try.info9
  have hq := eqnil24
  go_enter Try.func12, Try.ntmps12
  go_wp2_with (refine wpList_make_row _ rfl _ _ 24 rfl 9 i0 (.string ⟨#[]⟩) Try.underlying24 hi hz0 hz1 rfl .i64 .i64 _ _ ss.length ss.length rfl rfl rfl rfl (Nat.le_refl _) (by rw [hz2]; omega) (by unfold maxLen; omega) ?_)
  intro w1 hr1 hb1 hs1
  clear hs1
  go_wp2
  go_loopw [4] (fun i wr => ∃ k : Nat, k ≤ ss.length ∧ i = .int .i64 k ∧ Row wr w.heap.size 9 (strs (part ss k)) ∧ Below w.heap.size w wr) (fun i _ => ss.length - (intOf i).toNat)
  case atStart => exact ⟨0, Nat.zero_le _, rfl, by rw [part_zero]; simpa [strs, emp] using hr1, hb1⟩
  case round =>
    clear hr1 hb1
    obtain ⟨k, hk, rfl, hr, hbl⟩ := hrel
    by_cases hlt : k < ss.length
    · obtain ⟨b, off, spot⟩ := ad
      have h0 := h k _ (strs_at ss k hlt)
      have hs : spot = none := by simpa [Addr.add] using World.cell?_spot (h 0 _ (strs_at ss 0 (by omega)))
      subst hs
      obtain ⟨x, hx⟩ : ∃ x, x = ss.getD k emp := ⟨_, rfl⟩
      rw [Addr.add_lit, ← hx] at h0
      have hcx : wr.cell? ⟨b, off + k, none⟩ = some (.string x) := (hbl.cell (World.block_lt_of_cell? w _ h0)).trans h0
      have hfz := hr.frozen k
      obtain ⟨y, hcy⟩ : ∃ y, wr.cell? ⟨w.heap.size, k, none⟩ = some (.string y) := ⟨_, hr.cell (strs_at _ k (by rw [part_length _ _ hk]; exact hlt))⟩
      have h2 := hr.set k (.string x)
      rw [strs_set, hx, part_set _ _ hlt, ← hx] at h2
      have H2 := Lib.hid h2
      clear hx h2 h h0
      go_wp2
      go_roundw
      case rel => exact ⟨k + 1, by omega, by go_num, H2.out, hbl.setCell (Nat.le_refl _) _⟩
      case measure => simp [intOf]; omega
    · rw [part_full ss k (by omega)] at hr
      go_wp2
      go_ret
      exact ⟨rfl, hr, hbl⟩

/-- zzStrs: a copy. -/
theorem strs_any (v : Value) (ss : List ByteArray) (w : World) (hl : ss.length ≤ 1048576) (h : Sl w v ss.length 1 (strs ss)) :
    Calls Try.prog 12 #[v] w fun e w' => ∃ v', e = .returned v' ∧ Sl w' v' ss.length 1 (strs ss) ∧ (∀ ad k c, v' = .slice (some ad) k c → w.heap.size ≤ ad.block) ∧ Below w.heap.size w w' := by
  rcases h with ⟨rfl, h1, h2⟩ | ⟨ad, c, rfl, h1, h2, h3⟩
  · refine (strs_nil w).mono ?_
    rintro e w' ⟨rfl, rfl⟩
    exact ⟨_, rfl, .inl ⟨rfl, h1, h2⟩, (fun ad k c e => by cases e), Below.refl _ _⟩
  · refine (strs_some ad c ss w hl h3).mono ?_
    rintro e w' ⟨rfl, hr, hb⟩
    exact ⟨_, rfl, Sl.ofRow hr h2 (Nat.le_refl _), (fun ad k c e => by cases e; exact Nat.le_refl _), hb⟩

/-- zzI32: a copy, or nil. -/
theorem i32_any (pa : Option Addr) (w : World) (h : ∀ a, pa = some a → ∃ n, w.cell? a = some (.int .i32 n)) :
    Calls Try.prog 13 #[.pointer pa] w fun e w' => ∃ q, e = .returned (.pointer q) ∧ Below w.heap.size w w' := by
  cases pa with
  | none =>
    go_enter Try.func13, Try.ntmps13
    go_wp2
    go_ret
    exact ⟨none, rfl, Below.refl _ _⟩
  | some a =>
    obtain ⟨n, hn⟩ := h a rfl
    go_enter Try.func13, Try.ntmps13
    go_wp2
    go_ret
    exact ⟨_, rfl, (Below.refl _ _).alloc (Nat.le_refl _) _⟩

/-- zzStrP: a copy, or nil. -/
theorem strP_any (pa : Option Addr) (w : World) (h : ∀ a, pa = some a → ∃ s, w.cell? a = some (.string s)) :
    Calls Try.prog 14 #[.pointer pa] w fun e w' => ∃ q, e = .returned (.pointer q) ∧ Below w.heap.size w w' := by
  cases pa with
  | none =>
    go_enter Try.func14, Try.ntmps14
    go_wp2
    go_ret
    exact ⟨none, rfl, Below.refl _ _⟩
  | some a =>
    obtain ⟨n, hn⟩ := h a rfl
    go_enter Try.func14, Try.ntmps14
    go_wp2
    go_ret
    exact ⟨_, rfl, (Below.refl _ _).alloc (Nat.le_refl _) _⟩

/-- zzAdd: some number between 0 and 2^20 + 1. -/
theorem add_any (n k : Int) (hn0 : 0 ≤ n) (hn : n ≤ 1048577) (hk0 : 0 ≤ k) (hk : k ≤ 9223372036854775807) (w : World) :
    Calls Try.prog 11 #[.int .i64 n, .int .i64 k] w fun e w' => ∃ m : Int, e = .returned (.int .i64 m) ∧ 0 ≤ m ∧ m ≤ 1048577 ∧ w' = w := by
  by_cases h1 : 1048576 < k
  · go_enter Try.func11, Try.ntmps11
    go_wp2
    go_ret
    exact ⟨_, rfl, by omega, by omega, rfl⟩
  · by_cases h2 : 1048576 < n + k
    · go_enter Try.func11, Try.ntmps11
      go_wp2
      go_ret
      exact ⟨_, rfl, by omega, by omega, rfl⟩
    · go_enter Try.func11, Try.ntmps11
      go_wp2
      go_ret
      exact ⟨_, rfl, by omega, by omega, rfl⟩

theorem drewN2 (w : World) (n m : Nat) : ∃ k, (w.drewN n).drewN m = w.drewN k := ⟨n + m, by simp [World.drewN, Nat.add_assoc]⟩

/-- slices.Clip. -/
theorem clip_any (ao : Option Addr) (n c : Nat) (w : World) (h : n ≤ c) (_hm : n ≤ 1048576) :
    Calls Try.prog 18 #[.slice ao n c] w fun e w' => e = .returned (.slice ao n n) ∧ w' = w := by
  have hc : (n : Int) ≤ (c : Int) := by omega
  go_enter Try.func18, Try.ntmps18
  go_wp2
  go_ret
  exact ⟨rfl, rfl⟩

set_option maxHeartbeats 1000000 in
/-- slices.Equal at []string. -/
theorem equal_any (v1 v2 : Value) (s1 s2 : List ByteArray) (w : World) (hl1 : s1.length ≤ 1048576) (_hl2 : s2.length ≤ 1048576) (h1 : Sl w v1 s1.length 1 (strs s1)) (h2 : Sl w v2 s2.length 1 (strs s2)) :
    Calls Try.prog 20 #[v1, v2] w fun e w' => e = .returned (.bool (decide (s1 = s2))) ∧ ∃ n, w' = w.drewN n := by
  obtain ⟨a1, c1, rfl⟩ := h1.shape
  obtain ⟨a2, c2, rfl⟩ := h2.shape
  by_cases hl : s1.length = s2.length
  · have hl' : ((s1.length : Int) != (s2.length : Int)) = false := by rw [hl]; simp
    go_enter Try.func20, Try.ntmps20
    go_wp2
    go_loopw [13] (fun i wr => ∃ k n : Nat, k ≤ s1.length ∧ i = .int .i64 k ∧ wr = w.drewN n ∧ Hid (s1.take k = s2.take k)) (fun i _ => s1.length - (intOf i).toNat)
    case atStart => exact ⟨0, 0, Nat.zero_le _, rfl, rfl, rfl⟩
    case round =>
      obtain ⟨k, n, hk, rfl, rfl, HT⟩ := hrel
      by_cases hlt : k < s1.length
      · have hlt2 : k < s2.length := by omega
        obtain ⟨x, hx⟩ : ∃ x, x = s1.getD k emp := ⟨_, rfl⟩
        obtain ⟨y, hy⟩ : ∃ y, y = s2.getD k emp := ⟨_, rfl⟩
        obtain ⟨b1, o1, c1', e1, _, _, hc1⟩ := h1.at (by rw [strs_length]; omega)
        obtain ⟨b2, o2, c2', e2, _, _, hc2⟩ := h2.at (by rw [strs_length]; omega)
        cases e1
        cases e2
        have hx1 : w.cell? ⟨b1, o1 + k, none⟩ = some (.string x) := by rw [hx]; exact hc1 k _ (strs_at s1 k hlt)
        have hy1 : w.cell? ⟨b2, o2 + k, none⟩ = some (.string y) := by rw [hy]; exact hc2 k _ (strs_at s2 k hlt2)
        have hi1 : (k : Int) < (s1.length : Int) := by omega
        have hi2 : (k : Int) < (s2.length : Int) := by omega
        have HX := Lib.hid hx
        have HY := Lib.hid hy
        clear hx hy hc1 hc2 h1 h2
        by_cases hxy : x = y
        · have hne : (x.toList == y.toList) = true := by rw [hxy]; simp
          have HXY := Lib.hid hxy
          clear hxy
          go_wp2
          go_quiet (fail)
          go_wp2
          go_roundw
          case rel =>
            refine ⟨k + 1, _, by omega, by go_num, rfl, ?_⟩
            show s1.take (k + 1) = s2.take (k + 1)
            rw [List.take_succ_eq_append_getElem hlt, List.take_succ_eq_append_getElem hlt2, HT.out, ← getD_at _ _ hlt, ← getD_at _ _ hlt2, ← HX.out, ← HY.out, HXY.out]
          case measure => simp [intOf]; omega
        · have hne : (x.toList == y.toList) = false := by
            rw [beq_eq_false_iff_ne]
            intro e
            rw [Go.ByteArray.toList_eq, Go.ByteArray.toList_eq] at e
            exact hxy (by cases x; cases y; simp at e; rw [e])
          have HXY := Lib.hid hxy
          clear hxy
          go_wp2
          go_quiet (fail)
          go_wp2
          go_ret
          refine ⟨?_, drewN2 _ _ _⟩
          have : ¬ s1 = s2 := by
            intro e
            apply HXY.out
            rw [HX.out, HY.out, e]
          show Ending.returned (.bool false) = _
          rw [decide_eq_false this]
      · have hs : s1 = s2 := by
          have := HT.out
          rwa [List.take_of_length_le (by omega), List.take_of_length_le (by omega)] at this
        have HS := Lib.hid hs
        clear hs
        go_wp2
        go_ret
        refine ⟨?_, _, rfl⟩
        show Ending.returned (.bool true) = _
        rw [decide_eq_true HS.out]
  · have hl' : ((s1.length : Int) != (s2.length : Int)) = true := by simp; omega
    have hne : ¬ s1 = s2 := fun e => hl (by rw [e])
    have HN := Lib.hid hne
    clear hne hl
    go_enter Try.func20, Try.ntmps20
    go_wp2
    go_ret
    refine ⟨?_, 0, rfl⟩
    show Ending.returned (.bool false) = _
    rw [decide_eq_false HN.out]

end Go.Proofs.Qxb6628158a

/-
  THE WALKS of zzBytes (4), IsZero (6), toTally (5).
-/
import Derived.Test.Qxb6628239aProg
import Derived.Test.Qxb6628239aMem
import Derived.Lib.Hide
import Derived.RegionTactic
import Derived.ChangeAlike
import Derived.Deep.QuietTactic
import Derived.BigQuiet
import Derived.BigRegion
namespace Go.Proofs.Qxb6628239a
open Go.RowKit

def pCells (ts : List (Int × Int)) : List Value := ts.flatMap fun p => [.int .i64 p.1, .int .u64 p.2]
theorem pCells_length (ts : List (Int × Int)) : (pCells ts).length = ts.length * 2 := by
  induction ts with
  | nil => rfl
  | cons a t ih => simp only [pCells, List.flatMap_cons, List.length_append, List.length_cons, List.length_nil] at ih ⊢; omega
theorem pCells_append (a b : List (Int × Int)) : pCells (a ++ b) = pCells a ++ pCells b := by simp [pCells]
theorem pCells_at (ps : List (Int × Int)) (j : Nat) (r : Int × Int) (h : ps[j]? = some r) : (pCells ps)[j * 2]? = some (.int .i64 r.1) ∧ (pCells ps)[j * 2 + 1]? = some (.int .u64 r.2) := by
  induction ps generalizing j with
  | nil => simp at h
  | cons a t ih =>
    have e : pCells (a :: t) = .int .i64 a.1 :: .int .u64 a.2 :: pCells t := rfl
    cases j with
    | zero => simp at h; subst h; exact ⟨rfl, rfl⟩
    | succ j =>
      have h' : t[j]? = some r := by simpa using h
      obtain ⟨q0, q1⟩ := ih j h'
      rw [e, show (j + 1) * 2 = j * 2 + 1 + 1 by omega]
      exact ⟨by simpa using q0, by simpa using q1⟩
theorem pCells_set (qs : List (Int × Int)) (k : Nat) (r : Int × Int) : ((pCells qs).set (k * 2) (.int .i64 r.1)).set (k * 2 + 1) (.int .u64 r.2) = pCells (qs.set k r) := by
  induction qs generalizing k with
  | nil => simp [pCells]
  | cons a t ih =>
    have e : ∀ a t, pCells (a :: t) = .int .i64 a.1 :: .int .u64 a.2 :: pCells t := fun _ _ => rfl
    cases k with
    | zero => rfl
    | succ k =>
      rw [List.set_cons_succ, e, e, ← ih k, show (k + 1) * 2 = k * 2 + 1 + 1 by omega]
      rfl
theorem pCells_take (ts : List (Int × Int)) (k : Nat) : pCells (ts.take k) = (pCells ts).take (k * 2) := by
  induction ts generalizing k with
  | nil => simp [pCells]
  | cons a t ih =>
    have e : ∀ a t, pCells (a :: t) = .int .i64 a.1 :: .int .u64 a.2 :: pCells t := fun _ _ => rfl
    cases k with
    | zero => rfl
    | succ k => rw [List.take_succ_cons, e, e, ih k, show (k + 1) * 2 = k * 2 + 1 + 1 by omega]; rfl
theorem pCells_drop (ts : List (Int × Int)) (k : Nat) : pCells (ts.drop k) = (pCells ts).drop (k * 2) := by
  induction ts generalizing k with
  | nil => simp [pCells]
  | cons a t ih =>
    have e : ∀ a t, pCells (a :: t) = .int .i64 a.1 :: .int .u64 a.2 :: pCells t := fun _ _ => rfl
    cases k with
    | zero => rfl
    | succ k => rw [List.drop_succ_cons, e, ih k, show (k + 1) * 2 = k * 2 + 1 + 1 by omega]; rfl

/-- Is it 0? -/
def z (p : Int × Int) : Bool := p.1 == 0 && p.2 == 0

theorem bytes_any (ao : Option Addr) (n c : Nat) (k : Int) (a b : Int) (w : World) :
    Calls Try.prog 4 #[.slice ao n c, .int .i64 k, .agg #[.int .i64 a, .int .u64 b]] w fun e w' => e = .returned (.bool (decide (n ≤ 1048576))) ∧ Below w.heap.size w w' := by
  have hB : Below w.heap.size w (w.alloc (.cells #[.int .i64 a, .int .u64 b] 25)) := (Below.refl _ _).alloc (Nat.le_refl _) _
  by_cases h : n ≤ 1048576
  · have h' : ¬ (1048576 : Int) < (n : Int) := by omega
    have e : decide (n ≤ 1048576) = true := decide_eq_true h
    rw [e]
    go_enter Try.func4, Try.ntmps4
    go_wp2
    go_ret
    exact ⟨rfl, hB⟩
  · have h' : (1048576 : Int) < (n : Int) := by omega
    have e : decide (n ≤ 1048576) = false := decide_eq_false h
    rw [e]
    go_enter Try.func4, Try.ntmps4
    go_wp2
    go_ret
    exact ⟨rfl, hB⟩

set_option maxHeartbeats 1000000 in
theorem isZero_any (v : Value) (ts : List (Int × Int)) (w : World) (hl : ts.length ≤ 1048576) (h : Sl w v ts.length 2 (pCells ts)) :
    Calls Try.prog 6 #[v] w fun e w' => e = .returned (.bool (ts.all z)) ∧ Below w.heap.size w w' := by
  obtain ⟨ao, c, rfl⟩ := h.shape
  go_enter Try.func6, Try.ntmps6
  go_wp2
  go_loopw [7] (fun i wr => ∃ k : Nat, k ≤ ts.length ∧ i = .int .i64 k ∧ Hid ((ts.take k).all z = true) ∧ Below w.heap.size w wr) (fun i _ => ts.length - (intOf i).toNat)
  case atStart => exact ⟨0, Nat.zero_le _, rfl, rfl, Below.refl _ _⟩
  case round =>
    obtain ⟨k, hk, rfl, HA, hb⟩ := hrel
    have hsz := hb.size
    by_cases hlt : k < ts.length
    · obtain ⟨x, hx⟩ : ∃ x, ts[k]? = some x := ⟨_, List.getElem?_eq_getElem hlt⟩
      obtain ⟨q0, q1⟩ := pCells_at ts k x hx
      obtain ⟨b1, o1, c1, e1, _, _, hc1⟩ := h.at (by rw [pCells_length]; omega)
      cases e1
      have g0 := (hb.cell (World.block_lt_of_cell? w _ (hc1 _ _ q0))).trans (hc1 _ _ q0)
      have g1 := (hb.cell (World.block_lt_of_cell? w _ (hc1 _ _ q1))).trans (hc1 _ _ q1)
      rw [← Nat.add_assoc] at g1
      have hi : (k : Int) < (ts.length : Int) := by omega
      have HX := Lib.hid hx
      obtain ⟨x, y⟩ := x
      simp only at g0 g1
      clear hc1 q0 q1 hx
      have hB := Lib.hid (hb.alloc hsz (.cells #[.int .i64 x, .int .u64 y] 31))
      by_cases hz : z (x, y) = true
      · have HT := Lib.hid (show (ts.take (k + 1)).all z = true by
          rw [List.take_add_one, HX.out, List.all_append, HA.out]; simpa using hz)
        have hz2 : x = 0 ∧ y = 0 := by simpa [z] using hz
        obtain ⟨rfl, rfl⟩ := hz2
        go_wp2
        go_roundw
        case rel => exact ⟨k + 1, by omega, by go_num, HT, hB.out⟩
        case measure => simp [intOf]; omega
      · have HF := Lib.hid (show ts.all z = false by
          rw [List.all_eq_false]
          exact ⟨(x, y), List.mem_of_getElem? HX.out, hz⟩)
        have hz2 : ¬ (x = 0 ∧ y = 0) := by simpa [z] using hz
        clear hz
        by_cases hx0 : x = 0
        · subst hx0
          have hy0 : ¬ y = 0 := fun e => hz2 ⟨rfl, e⟩
          clear hz2
          go_wp2
          go_ret
          exact ⟨by rw [HF.out]; rfl, hB.out⟩
        · clear hz2
          go_wp2
          go_ret
          exact ⟨by rw [HF.out]; rfl, hB.out⟩
    · have hA := HA.out
      rw [List.take_of_length_le (by omega)] at hA
      have HA2 := Lib.hid hA
      clear hA
      go_wp2
      go_ret
      exact ⟨by rw [HA2.out]; rfl, hb⟩

theorem eqnil22 (W : World) (a : Option Addr) (n c : Nat) : (binOp .eql 22 (.slice a n c) (.slice none 0 0)).run Try.prog W = .ok (.bool a.isNone) W := Lib.run_eql_slice_nil W 22 25 a n c 0 0 Try.underlying22
theorem Try.info31 : (Try.prog.info? 31).map (fun i => (i.zero, i.size, i.bytes)) = some (some (.agg #[.int .i64 0, .int .u64 0]), 2, 16) := by kernel_rfl

theorem made_at (q : Array Value) (m i : Nat) (h : i < m) : (madeCells q m)[i]? = some (q[i % q.size]!) := by simp [madeCells, h]

theorem made_pairs (n : Nat) : madeCells #[.int .i64 0, .int .u64 0] (n * 2) = (pCells (List.replicate n (0, 0))).toArray := by
  apply Array.ext'
  show (madeCells #[.int .i64 0, .int .u64 0] (n * 2)).toList = pCells (List.replicate n (0, 0))
  apply List.ext_getElem?
  intro i
  rw [Array.getElem?_toList]
  by_cases h1 : i < n * 2
  · rw [made_at _ _ _ h1]
    have hr : (List.replicate n ((0 : Int), (0 : Int)))[i / 2]? = some (0, 0) := by rw [List.getElem?_replicate]; simp; omega
    obtain ⟨q0, q1⟩ := pCells_at _ _ _ hr
    have h3 : i % 2 = 0 ∨ i % 2 = 1 := by omega
    show some ((#[Value.int .i64 0, .int .u64 0] : Array Value)[i % 2]!) = _
    rcases h3 with h3 | h3
    · rw [h3]
      rw [show i / 2 * 2 = i by omega] at q0
      rw [q0]; rfl
    · rw [h3]
      rw [show i / 2 * 2 + 1 = i by omega] at q1
      rw [q1]; rfl
  · rw [Array.getElem?_eq_none (by rw [size_madeCells]; omega), List.getElem?_eq_none (by rw [pCells_length]; simp; omega)]

/-- 'make(Tally, n, m)'. -/
theorem make28 (W : World) (n m : Nat) (hn : n ≤ m) (h : m ≤ 1048576) : (Instr.makeSlice 28 (.int .i64 (n : Int)) (.int .i64 (m : Int))).run Try.prog W = .ok (.slice (some ⟨W.heap.size, 0, none⟩) n m) (W.alloc (.cells (pCells (List.replicate m (0, 0))).toArray 31)) := by
  obtain ⟨i0, hi, hz0, hz1, hz2⟩ := info_parts Try.info31
  have hr := run_make (P := Try.prog) W 28 31 i0 _ Try.underlying28 hi hz0 .i64 .i64 n m (by omega) (by omega) (by rw [hz2]; omega) (by omega)
  rw [hz1] at hr
  simp only [Int.toNat_natCast] at hr
  rw [hr, ← made_pairs]
  rfl

set_option maxHeartbeats 2000000 in
theorem toTally_some (ad : Addr) (c : Nat) (ts : List (Int × Int)) (w : World) (hl : ts.length ≤ 65536) (h : Sl w (.slice (some ad) ts.length c) ts.length 2 (pCells ts)) :
    Calls Try.prog 5 #[.slice (some ad) ts.length c] w fun e w' => e = .returned (.slice (some ⟨w.heap.size, 0, none⟩) ts.length ts.length) ∧ Row w' w.heap.size 31 (pCells ts) ∧ Below w.heap.size w w' := by
  have hq := eqnil22
  have hmk := fun W => make28 W ts.length ts.length (Nat.le_refl _) (by omega)
  go_enter Try.func5, Try.ntmps5
  go_wp2
  go_loopw [4] (fun i wr => ∃ (k : Nat), k ≤ ts.length ∧ i = .int .i64 k ∧ Row wr w.heap.size 31 (pCells (ts.take k ++ List.replicate (ts.length - k) (0, 0))) ∧ Below w.heap.size w wr) (fun i _ => ts.length - (intOf i).toNat)
  case atStart => exact ⟨0, Nat.zero_le _, rfl, by simpa using Row.new w 31 _, (Below.refl _ _).alloc (Nat.le_refl _) _⟩
  case round =>
    clear hmk hq
    obtain ⟨k, hk, rfl, hrow, hb⟩ := hrel
    by_cases hlt : k < ts.length
    · obtain ⟨b1, o1, c1', e1, _, hb1lt, hc1⟩ := h.at (by rw [pCells_length]; omega)
      cases e1
      obtain ⟨x, hx⟩ : ∃ x, ts[k]? = some x := ⟨_, List.getElem?_eq_getElem hlt⟩
      obtain ⟨q0, q1⟩ := pCells_at ts k x hx
      have g0 := (hb.cell (World.block_lt_of_cell? w _ (hc1 _ _ q0))).trans (hc1 _ _ q0)
      have g1 := (hb.cell (World.block_lt_of_cell? w _ (hc1 _ _ q1))).trans (hc1 _ _ q1)
      rw [← Nat.add_assoc] at g1
      obtain ⟨t, ht⟩ : ∃ t, (ts.take k ++ List.replicate (ts.length - k) ((0 : Int), (0 : Int)))[k]? = some t := ⟨_, List.getElem?_eq_getElem (by simp; omega)⟩
      obtain ⟨r0, r1⟩ := pCells_at _ _ _ ht
      have f0 := hrow.cell r0
      have f1 := hrow.cell r1
      have z0 := hrow.frozen (k * 2)
      have z1 := hrow.frozen (k * 2 + 1)
      have hi1 : (k : Int) < (ts.length : Int) := by omega
      have hne : ¬ b1 = w.heap.size := by omega
      have hR := (hrow.set (k * 2) (.int .i64 x.1)).set (k * 2 + 1) (.int .u64 x.2)
      rw [pCells_set] at hR
      have e1 : (ts.take k ++ List.replicate (ts.length - k) ((0 : Int), (0 : Int))).set k x = ts.take (k + 1) ++ List.replicate (ts.length - (k + 1)) (0, 0) := by
        have hkl : (ts.take k).length = k := by simp; omega
        rw [List.set_append_right _ _ (by omega), hkl, Nat.sub_self, show ts.length - k = (ts.length - (k + 1)) + 1 by omega, List.replicate_succ, List.set_cons_zero, List.take_add_one, hx, List.append_assoc]
        rfl
      rw [e1] at hR
      clear hc1 q0 q1 r0 r1 ht hx e1
      go_wp2
      go_region
      go_wp2
      go_roundw
      case rel => exact ⟨k + 1, by omega, by go_num, hR, ((hb.setCell (Nat.le_refl _) _).setCell (Nat.le_refl _) _).drew⟩
      case measure => simp [intOf]; omega
    · have hk' : k = ts.length := by omega
      subst hk'
      rw [Nat.sub_self, List.replicate_zero, List.append_nil, List.take_length] at hrow
      go_wp2
      go_ret
      exact ⟨rfl, hrow, hb⟩

theorem toTally_nil (w : World) : Calls Try.prog 5 #[.slice none 0 0] w fun e w' => e = .returned (.slice none 0 0) ∧ w' = w := by
  have hq := eqnil22
  go_enter Try.func5, Try.ntmps5
  go_wp2
  go_ret
  exact ⟨rfl, rfl⟩

end Go.Proofs.Qxb6628239a

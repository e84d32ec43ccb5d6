/-
  THE WALKS of SelectorRequirement.equal (17), slices.IndexFunc (19), slices.ContainsFunc (16).
-/
import Derived.Test.Qxb6628158aLeaf
namespace Go.Proofs.Qxb6628158a
open Go.RowKit

theorem toList_ne {x y : ByteArray} (h : ¬ x = y) : (x.toList == y.toList) = false := by
  rw [beq_eq_false_iff_ne]
  intro e
  rw [Go.ByteArray.toList_eq, Go.ByteArray.toList_eq] at e
  exact h (by cases x; cases y; simp at e; rw [e])

/-- A requirement in memory: its key, its operator, its values' slice and what that reads as. -/
structure Rq where
  key : ByteArray
  op : ByteArray
  v : Value
  vals : List ByteArray

/-- Its values read so. -/
def Rq.ok (w : World) (r : Rq) : Prop := r.vals.length ≤ 1048576 ∧ Sl w r.v r.vals.length 1 (strs r.vals)

theorem Rq.ok.on {w w' : World} {r : Rq} (h : r.ok w) (hb : Below w.heap.size w w') : r.ok w' := ⟨h.1, h.2.on hb⟩

def Rq.agg (r : Rq) : Value := .agg #[.string r.key, .string r.op, r.v]
def Rq.cells (r : Rq) : List Value := [.string r.key, .string r.op, r.v]

def same (a b : Rq) : Bool := decide (a.key = b.key ∧ a.op = b.op ∧ a.vals = b.vals)

set_option maxHeartbeats 1000000 in
theorem eq_any (r s : Rq) (w : World) (hr : r.ok w) (hs : s.ok w) :
    Calls Try.prog 17 #[.agg #[.string r.key, .string r.op, r.v], .agg #[.string s.key, .string s.op, s.v]] w fun e w' => e = .returned (.bool (same r s)) ∧ Below w.heap.size w w' := by
  obtain ⟨k1, o1, v1, l1⟩ := r
  obtain ⟨k2, o2, v2, l2⟩ := s
  obtain ⟨a1, c1, e1⟩ := hr.2.shape
  obtain ⟨a2, c2, e2⟩ := hs.2.shape
  simp only at e1 e2
  subst e1
  subst e2
  obtain ⟨hr1, hr2⟩ := hr
  obtain ⟨hs1, hs2⟩ := hs
  simp only at hr1 hr2 hs1 hs2 ⊢
  unfold same
  simp only
  by_cases hk : k1 = k2
  · subst hk
    by_cases ho : o1 = o2
    · subst ho
      go_enter Try.func17, Try.ntmps17
      go_wp2_with fail
      refine (equal_any _ _ l1 l2 _ hr1 hs1 ((hr2.alloc _).alloc _) ((hs2.alloc _).alloc _)).mono ?_
      rintro e w1 ⟨rfl, n, rfl⟩
      go_wp2
      go_ret
      refine ⟨by simp, ?_⟩
      exact below_drewN (((Below.refl _ _).alloc (Nat.le_refl _) _).alloc (by simp) _) _
    · have hne := toList_ne ho
      go_enter Try.func17, Try.ntmps17
      go_wp2_with fail
      go_ret
      refine ⟨by simp [ho], ?_⟩
      exact ((Below.refl _ _).alloc (Nat.le_refl _) _).alloc (by simp) _
  · have hne := toList_ne hk
    go_enter Try.func17, Try.ntmps17
    go_wp2_with fail
    go_ret
    refine ⟨by simp [hk], ?_⟩
    exact ((Below.refl _ _).alloc (Nat.le_refl _) _).alloc (by simp) _

/-- A row of requirements. -/
def rqCells (rs : List Rq) : List Value := rs.flatMap Rq.cells

theorem rqCells_length (rs : List Rq) : (rqCells rs).length = rs.length * 3 := by
  induction rs with
  | nil => rfl
  | cons r rs ih => simp only [rqCells, List.flatMap_cons, List.length_append, List.length_cons] at *; rw [ih]; simp [Rq.cells]; omega

theorem rqCells_at (rs : List Rq) (j : Nat) (r : Rq) (h : rs[j]? = some r) : (rqCells rs)[j * 3]? = some (.string r.key) ∧ (rqCells rs)[j * 3 + 1]? = some (.string r.op) ∧ (rqCells rs)[j * 3 + 2]? = some r.v := by
  induction rs generalizing j with
  | nil => simp at h
  | cons a rs ih =>
    have e : rqCells (a :: rs) = a.cells ++ rqCells rs := rfl
    have hl : a.cells.length = 3 := rfl
    cases j with
    | zero =>
      simp only [List.getElem?_cons_zero, Option.some.injEq] at h
      subst h
      exact ⟨rfl, rfl, rfl⟩
    | succ j =>
      simp only [List.getElem?_cons_succ] at h
      obtain ⟨h1, h2, h3⟩ := ih j h
      rw [e]
      refine ⟨?_, ?_, ?_⟩
      · rw [List.getElem?_append_right (by omega), hl, show (j + 1) * 3 - 3 = j * 3 by omega]; exact h1
      · rw [List.getElem?_append_right (by omega), hl, show (j + 1) * 3 + 1 - 3 = j * 3 + 1 by omega]; exact h2
      · rw [List.getElem?_append_right (by omega), hl, show (j + 1) * 3 + 2 - 3 = j * 3 + 2 by omega]; exact h3

/-- The slice v reads as the requirements rs. -/
def ReqsAt (w : World) (v : Value) (rs : List Rq) : Prop := Sl w v rs.length 3 (rqCells rs) ∧ ∀ r ∈ rs, r.ok w

theorem ReqsAt.on {w w' : World} {v : Value} {rs : List Rq} (h : ReqsAt w v rs) (hb : Below w.heap.size w w') : ReqsAt w' v rs := ⟨h.1.on hb, fun r hr => (h.2 r hr).on hb⟩

set_option maxHeartbeats 1000000 in
theorem indexFunc_any (v : Value) (rs : List Rq) (r : Rq) (w : World) (hl : rs.length ≤ 1048576) (h : ReqsAt w v rs) (hr : r.ok w) :
    Calls Try.prog 19 #[v, .func (.func 17) #[.agg #[.string r.key, .string r.op, r.v]] #[]] w fun e w' => ∃ n : Int, e = .returned (.int .i64 n) ∧ (0 ≤ n ↔ rs.any (same r) = true) ∧ Below w.heap.size w w' := by
  obtain ⟨h1, h2⟩ := h
  obtain ⟨ao, c, rfl⟩ := h1.shape
  go_enter Try.func19, Try.ntmps19
  go_wp2
  go_loopw [8] (fun i wr => ∃ k : Nat, k ≤ rs.length ∧ i = .int .i64 k ∧ Hid ((rs.take k).any (same r) = false) ∧ Below w.heap.size w wr) (fun i _ => rs.length - (intOf i).toNat)
  case atStart => exact ⟨0, Nat.zero_le _, rfl, rfl, Below.refl _ _⟩
  case round =>
    obtain ⟨k, hk, rfl, HA, hb⟩ := hrel
    by_cases hlt : k < rs.length
    · obtain ⟨b1, o1, c1', e1, _, _, hc1⟩ := h1.at (by rw [rqCells_length]; omega)
      cases e1
      obtain ⟨x, hx⟩ : ∃ x, rs[k]? = some x := ⟨_, List.getElem?_eq_getElem hlt⟩
      obtain ⟨q0, q1, q2⟩ := rqCells_at rs k x hx
      have g0 : wr.cell? ⟨b1, o1 + k * 3, none⟩ = some (.string x.key) := (hb.cell (World.block_lt_of_cell? w _ (hc1 _ _ q0))).trans (hc1 _ _ q0)
      have g1 : wr.cell? ⟨b1, o1 + k * 3 + 1, none⟩ = some (.string x.op) := (hb.cell (World.block_lt_of_cell? w _ (hc1 _ _ q1))).trans (hc1 _ _ q1)
      have g2 : wr.cell? ⟨b1, o1 + k * 3 + 2, none⟩ = some x.v := (hb.cell (World.block_lt_of_cell? w _ (hc1 _ _ q2))).trans (hc1 _ _ q2)
      have hxm : x ∈ rs := List.mem_of_getElem? hx
      have hok := (h2 x hxm).on hb
      have hrk := hr.on hb
      have hxt : (rs.take (k + 1)).any (same r) = ((rs.take k).any (same r) || same r x) := by
        rw [List.take_add_one, hx]; simp
      rw [HA.out, Bool.false_or] at hxt
      have hany : same r x = true → rs.any (same r) = true := fun hq => List.any_eq_true.2 ⟨x, hxm, hq⟩
      have HXT := Lib.hid hxt
      have HANY := Lib.hid hany
      have hsz := hb.size
      clear hx q0 q1 q2 hc1 hxt hany
      go_wp2_with fail
      refine (eq_any r x wr hrk hok).mono ?_
      rintro e w1 ⟨rfl, hb1⟩
      have hb2 := hb.trans (hb1.mono hsz)
      obtain ⟨q, hq⟩ : ∃ q, q = same r x := ⟨_, rfl⟩
      rw [← hq]
      have HQ := Lib.hid hq
      clear hq g0 g1 g2 hb1 hok hrk
      cases q
      · go_wp2
        go_roundw
        case rel => exact ⟨k + 1, by omega, by go_num, HXT.out.trans HQ.out.symm, hb2⟩
        case measure => simp [intOf]; omega
      · go_wp2
        go_ret
        exact ⟨k, rfl, ⟨fun _ => HANY.out HQ.out.symm, fun _ => by omega⟩, hb2⟩
    · have hA := HA.out
      rw [List.take_of_length_le (by omega)] at hA
      have HA2 := Lib.hid hA
      clear hA
      go_wp2
      go_ret
      exact ⟨-1, rfl, ⟨fun h => by omega, fun h => by rw [HA2.out] at h; cases h⟩, hb⟩

set_option maxHeartbeats 400000 in
theorem containsFunc_any (v : Value) (rs : List Rq) (r : Rq) (w : World) (hl : rs.length ≤ 1048576) (h : ReqsAt w v rs) (hr : r.ok w) :
    Calls Try.prog 16 #[v, .func (.func 17) #[.agg #[.string r.key, .string r.op, r.v]] #[]] w fun e w' => e = .returned (.bool (rs.any (same r))) ∧ Below w.heap.size w w' := by
  go_enter Try.func16, Try.ntmps16
  go_wp2_with fail
  refine (indexFunc_any v rs r w hl h hr).mono ?_
  rintro e w1 ⟨n, rfl, hn, hb⟩
  have HN := Lib.hid hn
  clear hn
  go_wp2
  go_ret
  refine ⟨?_, hb⟩
  show Ending.returned (.bool (decide (0 ≤ n))) = _
  congr 2
  rw [Bool.eq_iff_iff, decide_eq_true_iff]
  exact HN.out

end Go.Proofs.Qxb6628158a

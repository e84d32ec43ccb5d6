/-
  THE WALKS of zzSameReq (9) and zzHeldC (10), where they answer true.
-/
import Derived.Test.Qxb6628158aReqs
namespace Go.Proofs.Qxb6628158a
open Go.RowKit

set_option maxHeartbeats 1000000 in
theorem sameReq_any (a b : Rq) (w : World) (ha : a.ok w) (hb : b.ok w) (hab : a.told = b.told) :
    Calls Try.prog 9 #[.agg #[.string a.key, .string a.op, a.v], .agg #[.string b.key, .string b.op, b.v]] w fun e w' => e = .returned (.bool true) ∧ Below w.heap.size w w' := by
  obtain ⟨k1, o1, v1, l1⟩ := a
  obtain ⟨k2, o2, v2, l2⟩ := b
  have e1 : k1 = k2 := congrArg (·.1) hab
  have e2 : o1 = o2 := congrArg (·.2.1) hab
  have e3 : l1 = l2 := congrArg (·.2.2) hab
  subst e1 e2 e3
  obtain ⟨a1, c1, e1⟩ := ha.2.shape
  obtain ⟨a2, c2, e2⟩ := hb.2.shape
  simp only at e1 e2
  subst e1
  subst e2
  obtain ⟨hr1, hr2⟩ := ha
  obtain ⟨hs1, hs2⟩ := hb
  simp only at hr1 hr2 hs1 hs2 ⊢
  clear hab
  go_enter Try.func9, Try.ntmps9
  go_wp2
  go_loopw [5] (fun i wr => ∃ k : Nat, k ≤ l1.length ∧ i = .int .i64 k ∧ wr.cell? ⟨w.heap.size, 2, none⟩ = some (.slice a1 l1.length c1) ∧ wr.cell? ⟨w.heap.size + 1, 2, none⟩ = some (.slice a2 l1.length c2) ∧ Below w.heap.size w wr) (fun i _ => l1.length - (intOf i).toNat)
  case atStart => exact ⟨0, Nat.zero_le _, rfl, by simp [go_sem], by simp [go_sem], ((Below.refl _ _).alloc (Nat.le_refl _) _).alloc (by simp) _⟩
  case round =>
    obtain ⟨k, hk, rfl, m1, m2, hB⟩ := hrel
    by_cases hlt : k < l1.length
    · obtain ⟨x, hx⟩ : ∃ x, x = l1.getD k emp := ⟨_, rfl⟩
      obtain ⟨b1, o1', c1', e1, _, _, hc1⟩ := (hr2.on hB).at (by rw [strs_length]; omega)
      obtain ⟨b2, o2', c2', e2, _, _, hc2⟩ := (hs2.on hB).at (by rw [strs_length]; omega)
      cases e1
      cases e2
      have hx1 : wr.cell? ⟨b1, o1' + k, none⟩ = some (.string x) := by rw [hx]; exact hc1 k _ (strs_at l1 k hlt)
      have hy1 : wr.cell? ⟨b2, o2' + k, none⟩ = some (.string x) := by rw [hx]; exact hc2 k _ (strs_at l1 k hlt)
      have hi1 : (k : Int) < (l1.length : Int) := by omega
      clear hx hc1 hc2 hr2 hs2
      go_wp2
      go_quiet (fail)
      go_wp2
      go_roundw
      case rel => exact ⟨k + 1, by omega, by go_num, m1, m2, below_drewN hB _⟩
      case measure => simp [intOf]; omega
    · go_wp2
      go_ret
      exact ⟨rfl, hB⟩

/-- The requirement that a match-label key asks for. -/
def IN : ByteArray := ⟨#[73, 110]⟩
def hit (key value : ByteArray) (r : Rq) : Prop := r.key = key ∧ r.op = IN ∧ r.vals = [value]

set_option maxHeartbeats 4000000 in
theorem held_any (v : Value) (rs : List Rq) (key value : ByteArray) (w : World) (hl : rs.length ≤ 1048576) (h : ReqsAt w v rs) (hh : ∃ r ∈ rs, hit key value r) :
    Calls Try.prog 10 #[v, .string key, .string value] w fun e w' => e = .returned (.bool true) ∧ Below w.heap.size w w' := by
  obtain ⟨h1, h2⟩ := h
  obtain ⟨ao, c, rfl⟩ := h1.shape
  obtain ⟨r0, hr0, hit0⟩ := hh
  obtain ⟨j0, hj0⟩ := List.getElem?_of_mem hr0
  have hjl : j0 < rs.length := (List.getElem?_eq_some_iff.1 hj0).1
  have HJ := Lib.hid hj0
  have HI := Lib.hid hit0
  clear hj0 hit0 hr0
  go_enter Try.func10, Try.ntmps10
  go_wp2
  go_loopw [7] (fun i wr => ∃ k : Nat, k ≤ j0 ∧ i = .int .i64 k ∧ Below w.heap.size w wr) (fun i _ => rs.length - (intOf i).toNat)
  case atStart => exact ⟨0, Nat.zero_le _, rfl, Below.refl _ _⟩
  case round =>
    obtain ⟨k, hk, rfl, hb⟩ := hrel
    have hlt : k < rs.length := by omega
    obtain ⟨b1, o1, c1', e1, _, _, hc1⟩ := h1.at (by rw [rqCells_length]; omega)
    cases e1
    obtain ⟨x, hx⟩ : ∃ x, rs[k]? = some x := ⟨_, List.getElem?_eq_getElem hlt⟩
    obtain ⟨q0, q1, q2⟩ := rqCells_at rs k x hx
    have hxm : x ∈ rs := List.mem_of_getElem? hx
    have hok := (h2 x hxm).on hb
    have HK : k = j0 → hit key value x := fun e => by subst e; have := HJ.out; rw [hx] at this; cases this; exact HI.out
    have g0 : wr.cell? ⟨b1, o1 + k * 3, none⟩ = some (.string x.key) := (hb.cell (World.block_lt_of_cell? w _ (hc1 _ _ q0))).trans (hc1 _ _ q0)
    have g1 : wr.cell? ⟨b1, o1 + k * 3 + 1, none⟩ = some (.string x.op) := (hb.cell (World.block_lt_of_cell? w _ (hc1 _ _ q1))).trans (hc1 _ _ q1)
    have g2 : wr.cell? ⟨b1, o1 + k * 3 + 2, none⟩ = some x.v := (hb.cell (World.block_lt_of_cell? w _ (hc1 _ _ q2))).trans (hc1 _ _ q2)
    obtain ⟨xk, xo, xv, xs⟩ := x
    obtain ⟨xa, xc, xe⟩ := hok.2.shape
    simp only at xe
    subst xe
    simp only at g0 g1 g2 HK
    have HK2 : k = j0 → xk = key ∧ xo = IN ∧ xs = [value] := HK
    have hsz := hb.size
    have hb9 : Below w.heap.size w (wr.alloc (.cells #[.string xk, .string xo, .slice xa xs.length xc] 41)) := hb.alloc hsz _
    have hi1 : (k : Int) < (rs.length : Int) := by omega
    have HKH := Lib.hid HK2
    have HB := Lib.hid hb9
    clear hx q0 q1 q2 hc1 HK HK2 hxm h1 h2 hb9
    by_cases d1 : xk = key
    · have t1 : (xk.toList == key.toList) = true := by rw [d1]; simp
      by_cases d2 : xo = IN
      · subst d2
        by_cases d3 : xs.length = 1
        · obtain ⟨y, rfl⟩ : ∃ y, xs = [y] := by
            match xs, d3 with
            | [y], _ => exact ⟨y, rfl⟩
          obtain ⟨b2, o2', c2', e2, _, hb2lt, hc2⟩ := hok.2.at (by rw [strs_length]; simp)
          cases e2
          have hy1 : wr.cell? ⟨b2, o2', none⟩ = some (.string y) := hc2 0 _ rfl
          clear hc2 hok
          by_cases d4 : y = value
          · subst d4
            subst d1
            clear HKH
            unfold IN at g1
            go_wp2
            go_ret
            exact ⟨rfl, HB.out⟩
          · have t4 := toList_ne d4
            have hne : k ≠ j0 := fun e => d4 (by have := (HKH.out e).2.2; simpa using this)
            have hlt2 : k < j0 := by omega
            subst d1
            unfold IN at g1
            clear d4 HKH
            go_wp2
            go_roundw
            case rel => exact ⟨k + 1, by omega, by go_num, HB.out⟩
            case measure => simp [intOf]; omega
        · have hne : k ≠ j0 := fun e => d3 (by rw [(HKH.out e).2.2]; rfl)
          have hlt2 : k < j0 := by omega
          have t3 : ((xs.length : Int) == 1) = false := by simp; omega
          subst d1
          unfold IN at g1
          clear HKH
          go_wp2
          go_roundw
          case rel => exact ⟨k + 1, by omega, by go_num, HB.out⟩
          case measure => simp [intOf]; omega
      · have hne : k ≠ j0 := fun e => d2 (HKH.out e).2.1
        have hlt2 : k < j0 := by omega
        have t2 := toList_ne d2
        unfold IN at t2
        have t2' : (xo.toList == [73, 110]) = false := by rwa [Go.ByteArray.toList_eq ⟨#[73, 110]⟩] at t2
        have t2'' : ¬ xo.toList = [73, 110] := by simpa using t2'
        subst d1
        clear HKH d2
        go_wp2
        go_roundw
        case rel => exact ⟨k + 1, by omega, by go_num, HB.out⟩
        case measure => simp [intOf]; omega
    · have hne : k ≠ j0 := fun e => d1 (HKH.out e).1
      have hlt2 : k < j0 := by omega
      have t1 := toList_ne d1
      clear HKH d1
      go_wp2
      go_roundw
      case rel => exact ⟨k + 1, by omega, by go_num, HB.out⟩
      case measure => simp [intOf]; omega

end Go.Proofs.Qxb6628158a

/-
  THE WALK of zzBytes (4): some bool, nothing changed; where it is true, every list of values is short.
-/
import Derived.Test.Qxb6628158aOver
namespace Go.Proofs.Qxb6628158a
open Go.RowKit

/-- The requirements of an argument, their lists of values of any length. -/
def ReqsIn (w : World) (v : Value) (rs : List Rq) : Prop := Sl w v rs.length 3 (rqCells rs) ∧ ∀ r ∈ rs, Sl w r.v r.vals.length 1 (strs r.vals)

def short (rs : List Rq) : Prop := ∀ r ∈ rs, r.vals.length ≤ 1048576

def BPost (rs : List Rq) (w : World) (e : Ending) (w' : World) : Prop := ∃ q, e = .returned (.bool q) ∧ (q = true → short rs) ∧ w = w'
theorem BPost.no {rs : List Rq} {w : World} : BPost rs w (.returned (.bool false)) w := ⟨false, rfl, (fun h => by cases h), rfl⟩
theorem BPost.yes {rs : List Rq} {w : World} (h : short rs) : BPost rs w (.returned (.bool true)) w := ⟨true, rfl, (fun _ => h), rfl⟩

set_option maxRecDepth 20000 in
set_option maxHeartbeats 4000000 in
theorem bytes_any (b : Bool) (v0 v1 v2 v3 : Value) (ps ls : List (ByteArray × ByteArray)) (rs : List Rq) (ks : List ByteArray) (n : Int) (t u : ByteArray) (p1 p2 p3 : Option Addr) (w : World)
    (h0 : Sl w v0 ps.length 2 (prCells ps)) (h1 : ReqsIn w v1 rs) (h2 : Sl w v2 ks.length 1 (strs ks)) (h3 : Sl w v3 ls.length 2 (prCells ls))
    (hp2 : ∀ a, p2 = some a → ∃ s, w.cell? a = some (.string s) ∧ s.size ≤ maxLen) (hp3 : ∀ a, p3 = some a → ∃ s, w.cell? a = some (.string s) ∧ s.size ≤ maxLen) :
    Calls Try.prog 4 #[.bool b, v0, v1, v2, v3, .int .i32 n, .string t, .string u, .pointer p1, .pointer p2, .pointer p3] w fun e w' => BPost rs w e w' := by
  obtain ⟨a0, c0, rfl⟩ := h0.shape
  obtain ⟨a1, c1, rfl⟩ := h1.1.shape
  obtain ⟨a2, c2, rfl⟩ := h2.shape
  obtain ⟨a3, c3, rfl⟩ := h3.shape
  go_enter Try.func4, Try.ntmps4
  go_wp2
  all_goals first | (go_ret; exact BPost.no) | skip
  go_loopw [23, 24] (fun v i wr => ∃ (m : Int) (k : Nat), v = .int .i64 m ∧ 0 ≤ m ∧ m ≤ 1048576 ∧ i = .int .i64 k ∧ k ≤ ps.length ∧ w = wr) (fun _ i _ => ps.length - (intOf i).toNat)
  case atStart => exact ⟨_, 0, rfl, by omega, by omega, rfl, Nat.zero_le _, rfl⟩
  case round =>
    obtain ⟨m, k, rfl, hm0, hm1, rfl, hk, rfl⟩ := hrel
    by_cases hlt : k < ps.length
    · obtain ⟨x, hx⟩ : ∃ x, ps[k]? = some x := ⟨_, List.getElem?_eq_getElem hlt⟩
      obtain ⟨q0, q1⟩ := prCells_at ps k x hx
      obtain ⟨b1, o1, c1', e1, _, _, hc1⟩ := h0.at (by rw [prCells_length]; omega)
      cases e1
      have g0 := hc1 _ _ q0
      have g1 := hc1 _ _ q1
      rw [← Nat.add_assoc] at g1
      have hi : (k : Int) < (ps.length : Int) := by omega
      clear hc1 q0 q1 hx
      go_wp2
      all_goals first | (go_ret; exact BPost.no) | skip
      go_roundw
      case rel => exact ⟨_, k + 1, rfl, by omega, by omega, by go_num, by omega, trivial⟩
      case measure => simp [intOf]; omega
    · go_wp2
      all_goals first | (go_ret; exact BPost.no) | skip
      go_loopw [23, 25] (fun v i wr => ∃ (m : Int) (k : Nat), v = .int .i64 m ∧ 0 ≤ m ∧ m ≤ 1048576 ∧ i = .int .i64 k ∧ k ≤ rs.length ∧ Hid (short (rs.take k)) ∧ w = wr) (fun _ i _ => rs.length - (intOf i).toNat)
      case atStart => exact ⟨_, 0, rfl, by omega, by omega, rfl, Nat.zero_le _, (fun r hr => by simp at hr), rfl⟩
      case round =>
        obtain ⟨m, k, rfl, hm0, hm1, rfl, hk, HS, rfl⟩ := hrel
        by_cases hlt : k < rs.length
        · obtain ⟨x, hx⟩ : ∃ x, rs[k]? = some x := ⟨_, List.getElem?_eq_getElem hlt⟩
          obtain ⟨q0, q1, q2⟩ := rqCells_at rs k x hx
          obtain ⟨b1, o1, c1', e1, _, _, hc1⟩ := h1.1.at (by rw [rqCells_length]; omega)
          cases e1
          have hxs := h1.2 x (List.mem_of_getElem? hx)
          have HX := Lib.hid hx
          obtain ⟨xk, xo, xv, xs⟩ := x
          obtain ⟨xa, xc, xe⟩ := hxs.shape
          simp only at xe
          subst xe
          have g0 := hc1 _ _ q0
          have g1 := hc1 _ _ q1
          have g2 := hc1 _ _ q2
          rw [← Nat.add_assoc] at g1 g2
          simp only at g0 g1 g2
          have hi : (k : Int) < (rs.length : Int) := by omega
          clear hc1 q0 q1 q2 hx
          by_cases hxl : xs.length ≤ 1048576
          · have HXL := Lib.hid hxl
            go_wp2
            all_goals first | (go_ret; exact BPost.no) | skip
            go_loopw [23, 26] (fun v i wr => ∃ (m : Int) (j : Nat), v = .int .i64 m ∧ 0 ≤ m ∧ m ≤ 1048576 ∧ i = .int .i64 j ∧ j ≤ xs.length ∧ w = wr) (fun _ i _ => xs.length - (intOf i).toNat)
            case atStart => exact ⟨_, 0, rfl, by omega, by omega, rfl, Nat.zero_le _, rfl⟩
            case round =>
              obtain ⟨m, j, rfl, hm0, hm1, rfl, hj, rfl⟩ := hrel
              by_cases hlt2 : j < xs.length
              · obtain ⟨y, hy⟩ : ∃ y, y = xs.getD j emp := ⟨_, rfl⟩
                obtain ⟨b2, o2, c2', e2, _, _, hc2⟩ := hxs.at (by rw [strs_length]; omega)
                cases e2
                have g3 := hc2 _ _ (strs_at xs j hlt2)
                rw [← hy] at g3
                have hi : (j : Int) < (xs.length : Int) := by omega
                clear hc2 hy
                go_wp2
                all_goals first | (go_ret; exact BPost.no) | skip
                go_roundw
                case rel => exact ⟨_, j + 1, rfl, by omega, by omega, by go_num, by omega, trivial⟩
                case measure => simp [intOf]; omega
              · have HS2 := Lib.hid (show short (rs.take (k + 1)) by
                  intro r hr
                  rw [List.take_add_one, HX.out] at hr
                  rcases List.mem_append.1 hr with h | h
                  · exact HS.out r h
                  · simp only [Option.toList_some, List.mem_singleton] at h
                    subst h
                    exact HXL.out)
                go_wp2
                go_roundw
                case rel => exact ⟨_, k + 1, rfl, by omega, by omega, by go_num, by omega, HS2, trivial⟩
                case measure => simp [intOf]; omega
          · go_wp2
            all_goals first | (go_ret; exact BPost.no) | skip
        · have hke : k = rs.length := by omega
          subst hke
          have hSS := HS.out
          rw [List.take_length] at hSS
          have HSS := Lib.hid hSS
          clear hSS HS
          go_wp2
          all_goals first | (go_ret; exact BPost.no) | skip
          go_loopw [23, 27] (fun v i wr => ∃ (m : Int) (k : Nat), v = .int .i64 m ∧ 0 ≤ m ∧ m ≤ 1048576 ∧ i = .int .i64 k ∧ k ≤ ks.length ∧ w = wr) (fun _ i _ => ks.length - (intOf i).toNat)
          case atStart => exact ⟨_, 0, rfl, by omega, by omega, rfl, Nat.zero_le _, rfl⟩
          case round =>
            obtain ⟨m, k, rfl, hm0, hm1, rfl, hk, rfl⟩ := hrel
            by_cases hlt : k < ks.length
            · obtain ⟨x, hx⟩ : ∃ x, x = ks.getD k emp := ⟨_, rfl⟩
              obtain ⟨b1, o1, c1', e1, _, _, hc1⟩ := h2.at (by rw [strs_length]; omega)
              cases e1
              have g0 := hc1 _ _ (strs_at ks k hlt)
              rw [← hx] at g0
              have hi : (k : Int) < (ks.length : Int) := by omega
              clear hc1 hx
              go_wp2
              all_goals first | (go_ret; exact BPost.no) | skip
              go_roundw
              case rel => exact ⟨_, k + 1, rfl, by omega, by omega, by go_num, by omega, trivial⟩
              case measure => simp [intOf]; omega
            · go_wp2
              all_goals first | (go_ret; exact BPost.no) | skip
              go_loopw [23, 28] (fun v i wr => ∃ (m : Int) (k : Nat), v = .int .i64 m ∧ 0 ≤ m ∧ m ≤ 1048576 ∧ i = .int .i64 k ∧ k ≤ ls.length ∧ w = wr) (fun _ i _ => ls.length - (intOf i).toNat)
              case atStart => exact ⟨_, 0, rfl, by omega, by omega, rfl, Nat.zero_le _, rfl⟩
              case round =>
                obtain ⟨m, k, rfl, hm0, hm1, rfl, hk, rfl⟩ := hrel
                by_cases hlt : k < ls.length
                · obtain ⟨x, hx⟩ : ∃ x, ls[k]? = some x := ⟨_, List.getElem?_eq_getElem hlt⟩
                  obtain ⟨q0, q1⟩ := prCells_at ls k x hx
                  obtain ⟨b1, o1, c1', e1, _, _, hc1⟩ := h3.at (by rw [prCells_length]; omega)
                  cases e1
                  have g0 := hc1 _ _ q0
                  have g1 := hc1 _ _ q1
                  rw [← Nat.add_assoc] at g1
                  have hi : (k : Int) < (ls.length : Int) := by omega
                  clear hc1 q0 q1 hx
                  go_wp2
                  all_goals first | (go_ret; exact BPost.no) | skip
                  go_roundw
                  case rel => exact ⟨_, k + 1, rfl, by omega, by omega, by go_num, by omega, trivial⟩
                  case measure => simp [intOf]; omega
                · cases p2 with
                  | none =>
                    cases p3 with
                    | none =>
                      go_wp2
                      all_goals first | (go_ret; exact BPost.no) | (go_ret; exact BPost.yes HSS.out)
                    | some a =>
                      obtain ⟨s, hs, hs2⟩ := hp3 a rfl
                      have hs3 := i64_le hs2
                      go_wp2
                      all_goals first | (go_ret; exact BPost.no) | (go_ret; exact BPost.yes HSS.out)
                  | some a' =>
                    obtain ⟨s', hs', hs2'⟩ := hp2 a' rfl
                    have hs3' := i64_le hs2'
                    cases p3 with
                    | none =>
                      go_wp2
                      all_goals first | (go_ret; exact BPost.no) | (go_ret; exact BPost.yes HSS.out)
                    | some a =>
                      obtain ⟨s, hs, hs2⟩ := hp3 a rfl
                      have hs3 := i64_le hs2
                      go_wp2
                      all_goals first | (go_ret; exact BPost.no) | (go_ret; exact BPost.yes HSS.out)

end Go.Proofs.Qxb6628158a

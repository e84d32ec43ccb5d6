/-
  THE WALKS of zzBytes (5 and 14).
-/
import Derived.Test.Qxb6628314aOk
namespace Go.Proofs.Qxb6628314a
open Go.RowKit

def BPost (us : List ByteArray) (es : List Ev) (w : World) (x : Ending) (w' : World) : Prop := ∃ q, x = .returned (.bool q) ∧ (q = true → us.length ≤ 1048576 ∧ es.length ≤ 1048576) ∧ Below w.heap.size w w'
theorem BPost.no {us : List ByteArray} {es : List Ev} {w w' : World} (h : Below w.heap.size w w') : BPost us es w (.returned (.bool false)) w' := ⟨false, rfl, (fun h => by cases h), h⟩
theorem BPost.yes {us : List ByteArray} {es : List Ev} {w w' : World} (h : Below w.heap.size w w') (h1 : us.length ≤ 1048576) (h2 : es.length ≤ 1048576) : BPost us es w (.returned (.bool true)) w' := ⟨true, rfl, (fun _ => ⟨h1, h2⟩), h⟩

set_option maxRecDepth 20000 in
set_option maxHeartbeats 8000000 in
theorem bytes_whole (a : Ap) (us : List ByteArray) (v : Value) (es : List Ev) (w : World) (hel : a.el = us.length) (hu : Sl w (.slice a.ea a.el a.ec) us.length 1 (strs us)) (h : Sl w v es.length 5 (es.flatMap Ev.spec)) :
    Calls Try.prog 5 #[.agg a.cells.toArray, v] w (BPost us es w) := by
  obtain ⟨ao, c, rfl⟩ := h.shape
  obtain ⟨ea, hea⟩ : ∃ x, x = a.ea := ⟨_, rfl⟩
  obtain ⟨ec, hec⟩ : ∃ x, x = a.ec := ⟨_, rfl⟩
  have HEL := Lib.hid hel
  clear hel
  unfold Ap.cells
  go_enter Try.func5, Try.ntmps5
  go_upto_region 1 with fail
  obtain ⟨W1, hW1⟩ : ∃ W, W = w.alloc (.cells (Ap.cells a).toArray 25) := ⟨_, rfl⟩
  have r1 : Row W1 w.heap.size 25 (Ap.cells a) := by rw [hW1]; exact Row.new w 25 (Ap.cells a)
  have b1 : Below w.heap.size w W1 := by rw [hW1]; exact (Below.refl _ _).alloc (Nat.le_refl _) _
  unfold Ap.cells at hW1
  rw [← hW1]
  clear hW1
  have hs := h.on b1
  have hus := hu.on b1
  rw [HEL.out] at hus
  have c7 : W1.cell? ⟨w.heap.size, 7, none⟩ = some (.slice a.ea us.length a.ec) := by rw [← HEL.out]; exact r1.cell (j := 7) rfl
  rw [← hea, ← hec] at c7 hus
  clear hea hec hu h
  have c0 := r1.cell (j := 0) rfl
  have c1 := r1.cell (j := 1) rfl
  have c2 := r1.cell (j := 2) rfl
  have c3 := r1.cell (j := 3) rfl
  have c5 := r1.cell (j := 5) rfl
  have c6 := r1.cell (j := 6) rfl
  have c11 := r1.cell (j := 11) rfl
  have c12 := r1.cell (j := 12) rfl
  have c13 := r1.cell (j := 13) rfl
  have c18 := r1.cell (j := 18) rfl
  have c21 := r1.cell (j := 21) rfl
  have c23 := r1.cell (j := 23) rfl
  by_cases hul : us.length ≤ 1048576
  case neg =>
    go_wp2
    all_goals first | (go_ret; exact BPost.no b1) | skip
  case pos =>
    go_wp2
    all_goals first | (go_ret; exact BPost.no b1) | skip
    go_loopw [5, 6] (fun v i wr => ∃ (m : Int) (k : Nat), v = .int .i64 m ∧ 0 ≤ m ∧ m ≤ 1048576 ∧ i = .int .i64 k ∧ k ≤ us.length ∧ W1 = wr) (fun _ i _ => us.length - (intOf i).toNat)
    case atStart => exact ⟨_, 0, rfl, by omega, by omega, rfl, Nat.zero_le _, rfl⟩
    case round =>
      obtain ⟨m, k, rfl, hm0, hm1, rfl, hk, rfl⟩ := hrel
      by_cases hlt : k < us.length
      · obtain ⟨y, hy⟩ : ∃ y, y = us.getD k emp := ⟨_, rfl⟩
        obtain ⟨b2, o2, c2', e2, _, _, hc2⟩ := hus.at (by rw [strs_length]; omega)
        cases e2
        have g3 := hc2 _ _ (strs_at us k hlt)
        rw [← hy] at g3
        have hi : (k : Int) < (us.length : Int) := by omega
        clear hc2 hy
        go_wp2
        all_goals first | (go_ret; exact BPost.no b1) | skip
        go_roundw
        case rel => exact ⟨_, k + 1, rfl, by omega, by omega, by go_num, by omega, trivial⟩
        case measure => simp [intOf]; omega
      · by_cases hl : es.length ≤ 1048576
        case neg =>
          go_wp2
          all_goals first | (go_ret; exact BPost.no b1) | skip
        case pos =>
          go_wp2
          all_goals first | (go_ret; exact BPost.no b1) | skip
          go_loopw [5, 7] (fun v i wr => ∃ (m : Int) (k : Nat), v = .int .i64 m ∧ 0 ≤ m ∧ m ≤ 1048576 ∧ i = .int .i64 k ∧ k ≤ es.length ∧ W1 = wr) (fun _ i _ => es.length - (intOf i).toNat)
          case atStart => exact ⟨_, 0, rfl, by omega, by omega, rfl, Nat.zero_le _, rfl⟩
          case round =>
            obtain ⟨m, k, rfl, hm0, hm1, rfl, hk, rfl⟩ := hrel
            by_cases hlt : k < es.length
            · obtain ⟨bb, oo, cc, e1, _, _, hc1⟩ := hs.at (by rw [flat_len _ 5 spec_len]; omega)
              cases e1
              obtain ⟨x, hx⟩ : ∃ x, es[k]? = some x := ⟨_, List.getElem?_eq_getElem hlt⟩
              have g1 : W1.cell? ⟨bb, oo + (k * 5 + 1), none⟩ = some (.string x.st) := hc1 _ _ (flat_at Ev.spec 5 spec_len es k x hx 1 (by omega))
              have g3 : W1.cell? ⟨bb, oo + (k * 5 + 3), none⟩ = some (.string x.by_) := hc1 _ _ (flat_at Ev.spec 5 spec_len es k x hx 3 (by omega))
              have g4 : W1.cell? ⟨bb, oo + (k * 5 + 4), none⟩ = some (.string x.rs) := hc1 _ _ (flat_at Ev.spec 5 spec_len es k x hx 4 (by omega))
              rw [← Nat.add_assoc] at g1 g3 g4
              have hi1 : (k : Int) < (es.length : Int) := by omega
              clear hc1 hx
              go_wp2
              all_goals first | (go_ret; exact BPost.no b1) | skip
              go_roundw
              case rel => exact ⟨_, k + 1, rfl, by omega, by omega, by go_num, by omega, trivial⟩
              case measure => simp [intOf]; omega
            · go_wp2
              go_ret
              exact BPost.yes b1 hul hl

set_option maxRecDepth 20000 in
set_option maxHeartbeats 8000000 in
theorem bytes_split (a : Ap) (us : List ByteArray) (v : Value) (es : List Ev) (q : Int) (w : World) (hel : a.el = us.length) (hu : Sl w (.slice a.ea a.el a.ec) us.length 1 (strs us)) (h : Sl w v es.length 5 (es.flatMap Ev.spec)) :
    Calls Try.prog 14 #[.agg a.cells.toArray, v, .int .i64 q] w (BPost us es w) := by
  obtain ⟨ao, c, rfl⟩ := h.shape
  obtain ⟨ea, hea⟩ : ∃ x, x = a.ea := ⟨_, rfl⟩
  obtain ⟨ec, hec⟩ : ∃ x, x = a.ec := ⟨_, rfl⟩
  have HEL := Lib.hid hel
  clear hel
  unfold Ap.cells
  go_enter Try.func14, Try.ntmps14
  go_upto_region 1 with fail
  obtain ⟨W1, hW1⟩ : ∃ W, W = w.alloc (.cells (Ap.cells a).toArray 25) := ⟨_, rfl⟩
  have r1 : Row W1 w.heap.size 25 (Ap.cells a) := by rw [hW1]; exact Row.new w 25 (Ap.cells a)
  have b1 : Below w.heap.size w W1 := by rw [hW1]; exact (Below.refl _ _).alloc (Nat.le_refl _) _
  unfold Ap.cells at hW1
  rw [← hW1]
  clear hW1
  have hs := h.on b1
  have hus := hu.on b1
  rw [HEL.out] at hus
  have c7 : W1.cell? ⟨w.heap.size, 7, none⟩ = some (.slice a.ea us.length a.ec) := by rw [← HEL.out]; exact r1.cell (j := 7) rfl
  rw [← hea, ← hec] at c7 hus
  clear hea hec hu h
  have c0 := r1.cell (j := 0) rfl
  have c1 := r1.cell (j := 1) rfl
  have c2 := r1.cell (j := 2) rfl
  have c3 := r1.cell (j := 3) rfl
  have c5 := r1.cell (j := 5) rfl
  have c6 := r1.cell (j := 6) rfl
  have c11 := r1.cell (j := 11) rfl
  have c12 := r1.cell (j := 12) rfl
  have c13 := r1.cell (j := 13) rfl
  have c18 := r1.cell (j := 18) rfl
  have c21 := r1.cell (j := 21) rfl
  have c23 := r1.cell (j := 23) rfl
  by_cases hul : us.length ≤ 1048576
  case neg =>
    go_wp2
    all_goals first | (go_ret; exact BPost.no b1) | skip
  case pos =>
    go_wp2
    all_goals first | (go_ret; exact BPost.no b1) | skip
    go_loopw [7, 8] (fun v i wr => ∃ (m : Int) (k : Nat), v = .int .i64 m ∧ 0 ≤ m ∧ m ≤ 1048576 ∧ i = .int .i64 k ∧ k ≤ us.length ∧ W1 = wr) (fun _ i _ => us.length - (intOf i).toNat)
    case atStart => exact ⟨_, 0, rfl, by omega, by omega, rfl, Nat.zero_le _, rfl⟩
    case round =>
      obtain ⟨m, k, rfl, hm0, hm1, rfl, hk, rfl⟩ := hrel
      by_cases hlt : k < us.length
      · obtain ⟨y, hy⟩ : ∃ y, y = us.getD k emp := ⟨_, rfl⟩
        obtain ⟨b2, o2, c2', e2, _, _, hc2⟩ := hus.at (by rw [strs_length]; omega)
        cases e2
        have g3 := hc2 _ _ (strs_at us k hlt)
        rw [← hy] at g3
        have hi : (k : Int) < (us.length : Int) := by omega
        clear hc2 hy
        go_wp2
        all_goals first | (go_ret; exact BPost.no b1) | skip
        go_roundw
        case rel => exact ⟨_, k + 1, rfl, by omega, by omega, by go_num, by omega, trivial⟩
        case measure => simp [intOf]; omega
      · by_cases hl : es.length ≤ 1048576
        case neg =>
          go_wp2
          all_goals first | (go_ret; exact BPost.no b1) | skip
        case pos =>
          go_wp2
          all_goals first | (go_ret; exact BPost.no b1) | skip
          go_loopw [7, 9] (fun v i wr => ∃ (m : Int) (k : Nat), v = .int .i64 m ∧ 0 ≤ m ∧ m ≤ 1048576 ∧ i = .int .i64 k ∧ k ≤ es.length ∧ W1 = wr) (fun _ i _ => es.length - (intOf i).toNat)
          case atStart => exact ⟨_, 0, rfl, by omega, by omega, rfl, Nat.zero_le _, rfl⟩
          case round =>
            obtain ⟨m, k, rfl, hm0, hm1, rfl, hk, rfl⟩ := hrel
            by_cases hlt : k < es.length
            · obtain ⟨bb, oo, cc, e1, _, _, hc1⟩ := hs.at (by rw [flat_len _ 5 spec_len]; omega)
              cases e1
              obtain ⟨x, hx⟩ : ∃ x, es[k]? = some x := ⟨_, List.getElem?_eq_getElem hlt⟩
              have g1 : W1.cell? ⟨bb, oo + (k * 5 + 1), none⟩ = some (.string x.st) := hc1 _ _ (flat_at Ev.spec 5 spec_len es k x hx 1 (by omega))
              have g3 : W1.cell? ⟨bb, oo + (k * 5 + 3), none⟩ = some (.string x.by_) := hc1 _ _ (flat_at Ev.spec 5 spec_len es k x hx 3 (by omega))
              have g4 : W1.cell? ⟨bb, oo + (k * 5 + 4), none⟩ = some (.string x.rs) := hc1 _ _ (flat_at Ev.spec 5 spec_len es k x hx 4 (by omega))
              rw [← Nat.add_assoc] at g1 g3 g4
              have hi1 : (k : Int) < (es.length : Int) := by omega
              clear hc1 hx
              go_wp2
              all_goals first | (go_ret; exact BPost.no b1) | skip
              go_roundw
              case rel => exact ⟨_, k + 1, rfl, by omega, by omega, by go_num, by omega, trivial⟩
              case measure => simp [intOf]; omega
            · go_wp2
              go_ret
              exact BPost.yes b1 hul hl

end Go.Proofs.Qxb6628314a

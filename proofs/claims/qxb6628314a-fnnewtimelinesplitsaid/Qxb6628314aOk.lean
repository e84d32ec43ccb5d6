/-
  THE WALKS of zzAddLen (15), zzTimeOK (16), zzTimesOK (7), zzSizeOK (6).
-/
import Derived.Test.Qxb6628314aEvs
import Derived.Test.Qxb6628314aAp
namespace Go.Proofs.Qxb6628314a
open Go.RowKit

theorem addLen_any (n m : Int) (w : World) (h0 : 0 ≤ n) (h1 : n ≤ 1048577) (h2 : 0 ≤ m) :
    Calls Try.prog 15 #[.int .i64 n, .int .i64 m] w fun x w' => ∃ r : Int, x = .returned (.int .i64 r) ∧ 0 ≤ r ∧ r ≤ 1048577 ∧ w = w' := by
  go_enter Try.func15, Try.ntmps15
  by_cases hm : 1048576 < m
  · go_wp2
    go_ret
    exact ⟨_, rfl, by omega, by omega, rfl⟩
  · have hw : IntKind.i64.wrap (1048576 - m) = 1048576 - m := by rw [IntKind.wrap_i64]; omega
    by_cases hn : 1048576 - m < n
    · go_wp2
      go_ret
      exact ⟨_, rfl, by omega, by omega, rfl⟩
    · have hw' : IntKind.i64.wrap (n + m) = n + m := by rw [IntKind.wrap_i64]; omega
      go_wp2
      go_ret
      exact ⟨_, rfl, by omega, by omega, rfl⟩

/-- An instant within the bound. -/
def okT (x : Int) : Bool := decide (-2305843009213693952 ≤ x) && decide (x ≤ 2305843009213693952)
theorem okT_iff (x : Int) : okT x = true ↔ -2305843009213693952 ≤ x ∧ x ≤ 2305843009213693952 := by unfold okT; simp

theorem timeOK_any (x : Int) (w : World) : Calls Try.prog 16 #[.int .i64 x] w fun e w' => e = .returned (.bool (okT x)) ∧ w = w' := by
  go_enter Try.func16, Try.ntmps16
  unfold okT
  by_cases h : -2305843009213693952 ≤ x
  · go_wp2
    go_ret
    exact ⟨by simp [h], rfl⟩
  · go_wp2
    go_ret
    exact ⟨by rw [decide_eq_false (Int.not_le.2 h)]; rfl, rfl⟩

/-- Every instant that the timeline reads is within the bound. -/
def timesOK (a : Ap) (es : List Ev) : Prop := okT a.ca = true ∧ (a.hd = true → okT a.da = true) ∧ ∀ e ∈ es, okT e.at_ = true
def TPost (a : Ap) (es : List Ev) (w : World) (x : Ending) (w' : World) : Prop := ∃ q, x = .returned (.bool q) ∧ (q = true → timesOK a es) ∧ Below w.heap.size w w'
theorem TPost.no {a : Ap} {es : List Ev} {w w' : World} (h : Below w.heap.size w w') : TPost a es w (.returned (.bool false)) w' := ⟨false, rfl, (fun h => by cases h), h⟩
theorem TPost.yes {a : Ap} {es : List Ev} {w w' : World} (h : Below w.heap.size w w') (ht : timesOK a es) : TPost a es w (.returned (.bool true)) w' := ⟨true, rfl, (fun _ => ht), h⟩

set_option maxRecDepth 20000 in
set_option maxHeartbeats 4000000 in
theorem timesOK_any (a : Ap) (v : Value) (es : List Ev) (w : World) (hl : es.length ≤ 1048576) (h : Sl w v es.length 5 (es.flatMap Ev.spec)) :
    Calls Try.prog 7 #[.agg a.cells.toArray, v] w (TPost a es w) := by
  obtain ⟨ao, c, rfl⟩ := h.shape
  unfold Ap.cells
  go_enter Try.func7, Try.ntmps7
  go_upto_region 1 with fail
  obtain ⟨W1, hW1⟩ : ∃ W, W = w.alloc (.cells (Ap.cells a).toArray 25) := ⟨_, rfl⟩
  have r1 : Row W1 w.heap.size 25 (Ap.cells a) := by rw [hW1]; exact Row.new w 25 (Ap.cells a)
  have b1 : Below w.heap.size w W1 := by rw [hW1]; exact (Below.refl _ _).alloc (Nat.le_refl _) _
  unfold Ap.cells at hW1
  rw [← hW1]
  clear hW1
  have hs := h.on b1
  have c8 := r1.cell (j := 8) rfl
  have c10 := r1.cell (j := 10) rfl
  have c19 := r1.cell (j := 19) rfl
  go_wp2_with fail
  refine (timeOK_any a.ca W1).mono ?_
  rintro x w1 ⟨rfl, rfl⟩
  by_cases hq : okT a.ca = true
  case neg =>
    rw [Bool.not_eq_true] at hq
    rw [hq]
    go_wp2
    go_ret
    exact TPost.no b1
  case pos =>
    rw [hq]
    have HQ := Lib.hid hq
    by_cases hd : a.hd = true
    · have HD := Lib.hid hd
      rw [hd] at c10
      clear hd
      go_wp2_with fail
      refine (timeOK_any a.da W1).mono ?_
      rintro x w1 ⟨rfl, rfl⟩
      by_cases hq2 : okT a.da = true
      case neg =>
        rw [Bool.not_eq_true] at hq2
        rw [hq2]
        go_wp2
        go_ret
        exact TPost.no b1
      case pos =>
        have HH := Lib.hid (show a.hd = true → okT a.da = true from fun _ => hq2)
        rw [hq2]
        clear hq hq2 HD c8 c10 c19
        go_wp2
        go_loopw [5] (fun i wr => ∃ k : Nat, k ≤ es.length ∧ i = .int .i64 k ∧ Hid (∀ e ∈ es.take k, okT e.at_ = true) ∧ W1 = wr) (fun i _ => es.length - (intOf i).toNat)
        case atStart => exact ⟨0, Nat.zero_le _, rfl, (fun e he => by simp at he), rfl⟩
        case round =>
          obtain ⟨k, hk, rfl, HS, rfl⟩ := hrel
          by_cases hlt : k < es.length
          · obtain ⟨bb, oo, cc, e1, _, _, hc1⟩ := hs.at (by rw [flat_len _ 5 spec_len]; omega)
            cases e1
            obtain ⟨x, hx⟩ : ∃ x, es[k]? = some x := ⟨_, List.getElem?_eq_getElem hlt⟩
            have g2 : W1.cell? ⟨bb, oo + (k * 5 + 2), none⟩ = some (.int .i64 x.at_) := hc1 _ _ (flat_at Ev.spec 5 spec_len es k x hx 2 (by omega))
            rw [← Nat.add_assoc] at g2
            have hi1 : (k : Int) < (es.length : Int) := by omega
            have HX := Lib.hid hx
            clear hc1 hx
            go_wp2_with fail
            refine (timeOK_any x.at_ W1).mono ?_
            rintro y w1 ⟨rfl, rfl⟩
            by_cases hq3 : okT x.at_ = true
            case neg =>
              rw [Bool.not_eq_true] at hq3
              rw [hq3]
              go_wp2
              go_ret
              exact TPost.no b1
            case pos =>
              have HS2 := Lib.hid (show ∀ e ∈ es.take (k + 1), okT e.at_ = true by
                intro r hr
                rw [List.take_add_one, HX.out] at hr
                rcases List.mem_append.1 hr with h | h
                · exact HS.out r h
                · simp only [Option.toList_some, List.mem_singleton] at h
                  subst h
                  exact hq3)
              rw [hq3]
              clear hq3
              go_wp2
              go_roundw
              case rel => exact ⟨k + 1, by omega, by go_num, HS2, trivial⟩
              case measure => simp [intOf]; omega
          · have hke : k = es.length := by omega
            subst hke
            have hSS := HS.out
            rw [List.take_length] at hSS
            have HSS := Lib.hid hSS
            clear hSS HS
            go_wp2
            go_ret
            exact TPost.yes b1 ⟨HQ.out, HH.out, HSS.out⟩
    · have HH := Lib.hid (show a.hd = true → okT a.da = true from fun h => absurd h hd)
      rw [Bool.not_eq_true] at hd
      rw [hd] at c10
      clear hd hq c8 c19
      go_wp2
      go_loopw [5] (fun i wr => ∃ k : Nat, k ≤ es.length ∧ i = .int .i64 k ∧ Hid (∀ e ∈ es.take k, okT e.at_ = true) ∧ W1 = wr) (fun i _ => es.length - (intOf i).toNat)
      case atStart => exact ⟨0, Nat.zero_le _, rfl, (fun e he => by simp at he), rfl⟩
      case round =>
        obtain ⟨k, hk, rfl, HS, rfl⟩ := hrel
        by_cases hlt : k < es.length
        · obtain ⟨bb, oo, cc, e1, _, _, hc1⟩ := hs.at (by rw [flat_len _ 5 spec_len]; omega)
          cases e1
          obtain ⟨x, hx⟩ : ∃ x, es[k]? = some x := ⟨_, List.getElem?_eq_getElem hlt⟩
          have g2 : W1.cell? ⟨bb, oo + (k * 5 + 2), none⟩ = some (.int .i64 x.at_) := hc1 _ _ (flat_at Ev.spec 5 spec_len es k x hx 2 (by omega))
          rw [← Nat.add_assoc] at g2
          have hi1 : (k : Int) < (es.length : Int) := by omega
          have HX := Lib.hid hx
          clear hc1 hx
          go_wp2_with fail
          refine (timeOK_any x.at_ W1).mono ?_
          rintro y w1 ⟨rfl, rfl⟩
          by_cases hq3 : okT x.at_ = true
          case neg =>
            rw [Bool.not_eq_true] at hq3
            rw [hq3]
            go_wp2
            go_ret
            exact TPost.no b1
          case pos =>
            have HS2 := Lib.hid (show ∀ e ∈ es.take (k + 1), okT e.at_ = true by
              intro r hr
              rw [List.take_add_one, HX.out] at hr
              rcases List.mem_append.1 hr with h | h
              · exact HS.out r h
              · simp only [Option.toList_some, List.mem_singleton] at h
                subst h
                exact hq3)
            rw [hq3]
            clear hq3
            go_wp2
            go_roundw
            case rel => exact ⟨k + 1, by omega, by go_num, HS2, trivial⟩
            case measure => simp [intOf]; omega
        · have hke : k = es.length := by omega
          subst hke
          have hSS := HS.out
          rw [List.take_length] at hSS
          have HSS := Lib.hid hSS
          clear hSS HS
          go_wp2
          go_ret
          exact TPost.yes b1 ⟨HQ.out, HH.out, HSS.out⟩

/-- Strings as cells. -/
def strs (l : List ByteArray) : List Value := l.map .string
theorem strs_length (l : List ByteArray) : (strs l).length = l.length := by simp [strs]
def emp : ByteArray := ⟨#[]⟩
theorem strs_at (l : List ByteArray) (k : Nat) (h : k < l.length) : (strs l)[k]? = some (.string (l.getD k emp)) := by
  unfold strs
  rw [List.getElem?_map, List.getD_eq_getElem?_getD, List.getElem?_eq_getElem h]
  rfl

def SPost (w : World) (x : Ending) (w' : World) : Prop := ∃ q, x = .returned (.bool q) ∧ Below w.heap.size w w'

set_option maxRecDepth 20000 in
set_option maxHeartbeats 4000000 in
theorem sizeOK_any (a : Ap) (us : List ByteArray) (v : Value) (es : List Ev) (w : World) (hl : es.length ≤ 1048576) (hel : a.el = us.length) (hul : us.length ≤ 1048576) (hu : Sl w (.slice a.ea a.el a.ec) us.length 1 (strs us)) (h : Sl w v es.length 5 (es.flatMap Ev.spec)) :
    Calls Try.prog 6 #[.agg a.cells.toArray, v] w (SPost w) := by
  obtain ⟨ao, c, rfl⟩ := h.shape
  obtain ⟨ea, hea⟩ : ∃ x, x = a.ea := ⟨_, rfl⟩
  obtain ⟨ec, hec⟩ : ∃ x, x = a.ec := ⟨_, rfl⟩
  have HEL := Lib.hid hel
  clear hel
  unfold Ap.cells
  go_enter Try.func6, Try.ntmps6
  go_upto_region 1 with fail
  obtain ⟨W1, hW1⟩ : ∃ W, W = w.alloc (.cells (Ap.cells a).toArray 25) := ⟨_, rfl⟩
  have r1 : Row W1 w.heap.size 25 (Ap.cells a) := by rw [hW1]; exact Row.new w 25 (Ap.cells a)
  have b1 : Below w.heap.size w W1 := by rw [hW1]; exact (Below.refl _ _).alloc (Nat.le_refl _) _
  unfold Ap.cells at hW1
  rw [← hW1]
  clear hW1
  have hs := h.on b1
  have hus := hu.on b1
  rw [HEL.out] at hus
  have c7 : W1.cell? ⟨w.heap.size, 7, none⟩ = some (.slice a.ea us.length a.ec) := by rw [← HEL.out]; exact r1.cell (j := 7) rfl
  rw [← hea, ← hec] at c7 hus
  clear hea hec hu h
  have c0 := r1.cell (j := 0) rfl
  have c1 := r1.cell (j := 1) rfl
  have c2 := r1.cell (j := 2) rfl
  have c3 := r1.cell (j := 3) rfl
  have c5 := r1.cell (j := 5) rfl
  have c6 := r1.cell (j := 6) rfl
  have c11 := r1.cell (j := 11) rfl
  have c12 := r1.cell (j := 12) rfl
  have c13 := r1.cell (j := 13) rfl
  have c18 := r1.cell (j := 18) rfl
  have c21 := r1.cell (j := 21) rfl
  have c23 := r1.cell (j := 23) rfl
  go_wp2_with fail
  refine (addLen_any _ _ W1 (by omega) (by omega) (by omega)).mono ?_
  rintro x w1 ⟨n1, rfl, p1, q1, rfl⟩
  go_wp2_with fail
  refine (addLen_any _ _ W1 (by omega) (by omega) (by omega)).mono ?_
  rintro x w1 ⟨n2, rfl, p2, q2, rfl⟩
  clear p1 q1
  go_wp2_with fail
  refine (addLen_any _ _ W1 (by omega) (by omega) (by omega)).mono ?_
  rintro x w1 ⟨n3, rfl, p3, q3, rfl⟩
  clear p2 q2
  go_wp2_with fail
  refine (addLen_any _ _ W1 (by omega) (by omega) (by omega)).mono ?_
  rintro x w1 ⟨n4, rfl, p4, q4, rfl⟩
  clear p3 q3
  go_wp2_with fail
  refine (addLen_any _ _ W1 (by omega) (by omega) (by omega)).mono ?_
  rintro x w1 ⟨n5, rfl, p5, q5, rfl⟩
  clear p4 q4
  go_wp2_with fail
  refine (addLen_any _ _ W1 (by omega) (by omega) (by omega)).mono ?_
  rintro x w1 ⟨n6, rfl, p6, q6, rfl⟩
  clear p5 q5
  go_wp2_with fail
  refine (addLen_any _ _ W1 (by omega) (by omega) (by omega)).mono ?_
  rintro x w1 ⟨n7, rfl, p7, q7, rfl⟩
  clear p6 q6
  go_wp2_with fail
  refine (addLen_any _ _ W1 (by omega) (by omega) (by omega)).mono ?_
  rintro x w1 ⟨n8, rfl, p8, q8, rfl⟩
  clear p7 q7
  go_wp2_with fail
  refine (addLen_any _ _ W1 (by omega) (by omega) (by omega)).mono ?_
  rintro x w1 ⟨n9, rfl, p9, q9, rfl⟩
  clear p8 q8
  go_wp2_with fail
  refine (addLen_any _ _ W1 (by omega) (by omega) (by omega)).mono ?_
  rintro x w1 ⟨n10, rfl, p10, q10, rfl⟩
  clear p9 q9
  go_wp2_with fail
  refine (addLen_any _ _ W1 (by omega) (by omega) (by omega)).mono ?_
  rintro x w1 ⟨n11, rfl, p11, q11, rfl⟩
  clear p10 q10
  go_wp2_with fail
  refine (addLen_any _ _ W1 (by omega) (by omega) (by omega)).mono ?_
  rintro x w1 ⟨n12, rfl, p12, q12, rfl⟩
  clear p11 q11
  go_wp2
  all_goals first | (go_ret; exact ⟨_, rfl, b1⟩) | skip
  go_loopw [5, 6] (fun v i wr => ∃ (m : Int) (k : Nat), v = .int .i64 m ∧ 0 ≤ m ∧ m ≤ 1048577 ∧ i = .int .i64 k ∧ k ≤ us.length ∧ W1 = wr) (fun _ i _ => us.length - (intOf i).toNat)
  case atStart => exact ⟨_, 0, rfl, by omega, by omega, rfl, Nat.zero_le _, rfl⟩
  case round =>
    obtain ⟨m, k, rfl, hm0, hm1, rfl, hk, rfl⟩ := hrel
    by_cases hlt : k < us.length
    · obtain ⟨y, hy⟩ : ∃ y, y = us.getD k emp := ⟨_, rfl⟩
      obtain ⟨b2, o2, c2', e2, _, _, hc2⟩ := hus.at (by rw [strs_length]; omega)
      cases e2
      have g3 := hc2 _ _ (strs_at us k hlt)
      rw [← hy] at g3
      have hi : (k : Int) < (us.length : Int) := by omega
      clear hc2 hy
      go_wp2_with fail
      refine (addLen_any _ _ W1 (by omega) (by omega) (by omega)).mono ?_
      rintro x w1 ⟨m1, rfl, p1, q1, rfl⟩
      go_wp2_with fail
      refine (addLen_any _ _ W1 (by omega) (by omega) (by omega)).mono ?_
      rintro x w1 ⟨m2, rfl, p2, q2, rfl⟩
      go_wp2
      all_goals first | (go_ret; exact ⟨_, rfl, b1⟩) | skip
      go_roundw
      case rel => exact ⟨_, k + 1, rfl, by omega, by omega, by go_num, by omega, trivial⟩
      case measure => simp [intOf]; omega
    · go_wp2
      go_loopw [5, 7] (fun v i wr => ∃ (m : Int) (k : Nat), v = .int .i64 m ∧ 0 ≤ m ∧ m ≤ 1048577 ∧ i = .int .i64 k ∧ k ≤ es.length ∧ W1 = wr) (fun _ i _ => es.length - (intOf i).toNat)
      case atStart => exact ⟨_, 0, rfl, by omega, by omega, rfl, Nat.zero_le _, rfl⟩
      case round =>
        obtain ⟨m, k, rfl, hm0, hm1, rfl, hk, rfl⟩ := hrel
        by_cases hlt : k < es.length
        · obtain ⟨bb, oo, cc, e1, _, _, hc1⟩ := hs.at (by rw [flat_len _ 5 spec_len]; omega)
          cases e1
          obtain ⟨x, hx⟩ : ∃ x, es[k]? = some x := ⟨_, List.getElem?_eq_getElem hlt⟩
          have g1 : W1.cell? ⟨bb, oo + (k * 5 + 1), none⟩ = some (.string x.st) := hc1 _ _ (flat_at Ev.spec 5 spec_len es k x hx 1 (by omega))
          have g3 : W1.cell? ⟨bb, oo + (k * 5 + 3), none⟩ = some (.string x.by_) := hc1 _ _ (flat_at Ev.spec 5 spec_len es k x hx 3 (by omega))
          have g4 : W1.cell? ⟨bb, oo + (k * 5 + 4), none⟩ = some (.string x.rs) := hc1 _ _ (flat_at Ev.spec 5 spec_len es k x hx 4 (by omega))
          rw [← Nat.add_assoc] at g1 g3 g4
          have hi1 : (k : Int) < (es.length : Int) := by omega
          clear hc1 hx
          go_wp2_with fail
          refine (addLen_any _ _ W1 (by omega) (by omega) (by omega)).mono ?_
          rintro x w1 ⟨m1, rfl, p1, q1, rfl⟩
          go_wp2_with fail
          refine (addLen_any _ _ W1 (by omega) (by omega) (by omega)).mono ?_
          rintro x w1 ⟨m2, rfl, p2, q2, rfl⟩
          go_wp2_with fail
          refine (addLen_any _ _ W1 (by omega) (by omega) (by omega)).mono ?_
          rintro x w1 ⟨m3, rfl, p3, q3, rfl⟩
          go_wp2_with fail
          refine (addLen_any _ _ W1 (by omega) (by omega) (by omega)).mono ?_
          rintro x w1 ⟨m4, rfl, p4, q4, rfl⟩
          go_wp2
          all_goals first | (go_ret; exact ⟨_, rfl, b1⟩) | skip
          go_roundw
          case rel => exact ⟨_, k + 1, rfl, by omega, by omega, by go_num, by omega, trivial⟩
          case measure => simp [intOf]; omega
        · go_wp2
          go_ret
          exact ⟨_, rfl, b1⟩

end Go.Proofs.Qxb6628314a

/-
  THE WALK of the law (3).
-/
import Derived.Test.Qxb6628239aLeaf
import Derived.ArgAppend
import Derived.Deep.DeepCutAuto
namespace Go.Proofs.Qxb6628239a
open Go.RowKit

theorem cells_two (w : World) (T : TypeId) (a b : Value) : ∀ (j : Nat) (u : Value), [a, b][j]? = some u → (w.alloc (.cells #[a, b] T)).cell? ((⟨w.heap.size, 0, none⟩ : Addr).add j) = some u := by
  intro j u hj
  rw [Addr.add_lit]
  simpa using (Row.new w T [a, b]).cell hj

theorem Sl.ofOwns {w : World} {base : Nat} {e : TypeId} {sz : Nat} {v : Value} {n : Nat} {L : List Value} (h : w.ownsRow base e sz v n L) : Sl w v n sz L := by
  obtain ⟨hl, h2⟩ := h
  have hh : w.ownsRow base e sz v n L := ⟨hl, h2⟩
  rcases h2 with ⟨rfl, rfl⟩ | ⟨g, cap, cur, rfl, _, _, hc, _⟩
  · exact .inl ⟨rfl, rfl, List.eq_nil_of_length_eq_zero (by omega)⟩
  · exact .inr ⟨_, cap, rfl, hc, hl, hh.cells (g := g) rfl⟩

/-- The law's tail in plain words. -/
theorem all_cut (ts : List (Int × Int)) (k : Nat) : ts.all z = ((ts.take k).all z && (ts.drop k).all z) := by
  rw [← List.all_append, List.take_append_drop]

theorem all_ins (ts : List (Int × Int)) (k : Nat) (e : Int × Int) : (ts.take k ++ [e] ++ ts.drop k).all z = ((ts.take k).all z && z e && (ts.drop k).all z) := by
  rw [List.all_append, List.all_append]
  simp

/-- The tally with e put in at k, as far as j numbers behind it. -/
def put (ts : List (Int × Int)) (k : Nat) (e : Int × Int) (j : Nat) : List (Int × Int) := ts.take k ++ [e] ++ (ts.drop k).take j
theorem put_zero (ts : List (Int × Int)) (k : Nat) (e : Int × Int) : pCells (put ts k e 0) = pCells (ts.take k) ++ [.int .i64 e.1, .int .u64 e.2] := by
  unfold put
  rw [List.take_zero, List.append_nil, pCells_append]
  rfl
theorem put_succ (ts : List (Int × Int)) (k : Nat) (e x : Int × Int) (j : Nat) (h : ts[k + j]? = some x) : pCells (put ts k e j) ++ [.int .i64 x.1, .int .u64 x.2] = pCells (put ts k e (j + 1)) := by
  unfold put
  rw [List.take_add_one, List.getElem?_drop, h, ← List.append_assoc, pCells_append (ts.take k ++ [e] ++ (ts.drop k).take j)]
  rfl
theorem put_length (ts : List (Int × Int)) (k : Nat) (e : Int × Int) (j : Nat) (hk : k ≤ ts.length) (hj : j ≤ ts.length - k) : (put ts k e j).length = k + 1 + j := by unfold put; simp; omega
theorem put_all (ts : List (Int × Int)) (k : Nat) (e : Int × Int) : (put ts k e (ts.length - k)).all z = ((ts.take k).all z && z e && (ts.drop k).all z) := by
  unfold put
  rw [List.take_of_length_le (l := ts.drop k) (by simp)]
  exact all_ins ts k e

theorem all_zeros (n : Nat) : (List.replicate n ((0 : Int), (0 : Int))).all z = true := by
  rw [List.all_eq_true]
  intro x hx
  rw [List.eq_of_mem_replicate hx]
  rfl

set_option maxRecDepth 20000 in
set_option maxHeartbeats 8000000 in
theorem law_some (ad : Addr) (c : Nat) (ts : List (Int × Int)) (kn : Nat) (x y : Int) (w : World) (hl : ts.length ≤ 65536) (hk : kn ≤ ts.length) (h : Sl w (.slice (some ad) ts.length c) ts.length 2 (pCells ts)) :
    Calls Try.prog 3 #[.slice (some ad) ts.length c, .int .i64 (kn : Int), .agg #[.int .i64 x, .int .u64 y]] w fun e w' => e = .returned (.bool true) ∧ Below w.heap.size w w' := by
  obtain ⟨i0, hi, hz0, hz1, hz2⟩ := info_parts Try.info31
  have hkI : ¬ (kn : Int) < 0 := by omega
  have e1 : decide ((65536 : Int) < (ts.length : Int)) = false := decide_eq_false (by omega)
  have e2 : decide (ts.length < kn) = false := decide_eq_false (by omega)
  have e3 : decide ((kn : Int) < 0) = false := decide_eq_false (by omega)
  have hbox : Below w.heap.size w (w.alloc (.cells #[.int .i64 x, .int .u64 y] 25)) := (Below.refl _ _).alloc (Nat.le_refl _) _
  have rbox := Row.new w 25 [.int .i64 x, .int .u64 y]
  go_enter Try.func3, Try.ntmps3
  go_wp2_with fail
  refine (bytes_any _ _ _ _ x y _).mono ?_
  rintro e w1 ⟨rfl, hb1⟩
  rw [decide_eq_true (show ts.length ≤ 1048576 by omega)]
  have c1 := hbox.trans (hb1.mono (by simp))
  have r1 := rbox.below hb1 (by simp)
  clear hbox rbox hb1
  go_wp2_with fail
  refine (toTally_some ad c ts w1 hl (h.on c1)).mono ?_
  rintro e w2 ⟨rfl, hrow, hb2⟩
  have s1 := c1.size
  have c2 := c1.trans (hb2.mono s1)
  have r2 := r1.below hb2 r1.lt
  clear c1 r1 hb2
  obtain ⟨g, hg⟩ : ∃ g, g = w1.heap.size := ⟨_, rfl⟩
  rw [← hg] at hrow ⊢
  have hgl : w.heap.size ≤ g := by omega
  clear hg
  have hV := Sl.ofRow hrow (pCells_length ts) (Nat.le_refl _)
  go_wp2_with fail
  refine (isZero_any _ ts w2 (by omega) hV).mono ?_
  rintro e w3 ⟨rfl, hb3⟩
  have s2 := c2.size
  have c3 := c2.trans (hb3.mono s2)
  have r3 := r2.below hb3 r2.lt
  have row3 := hrow.below hb3 hrow.lt
  clear c2 r2 hb3 hrow hV
  obtain ⟨bW, hbW⟩ : ∃ b, b = ts.all z := ⟨_, rfl⟩
  rw [← hbW]
  have HW := Lib.hid hbW
  clear hbW
  have hVL : Sl w3 (.slice (some ⟨g, 0, none⟩) kn ts.length) (ts.take kn).length 2 (pCells (ts.take kn)) := by
    have hl' : (ts.take kn).length = kn := by simp; omega
    refine .inr ⟨⟨g, 0, none⟩, ts.length, by rw [hl'], by omega, pCells_length _, fun j u hj => ?_⟩
    rw [pCells_take] at hj
    rw [Addr.add_lit]
    have hj' : (pCells ts)[j]? = some u := by
      rw [List.getElem?_take] at hj
      split at hj
      · exact hj
      · cases hj
    simpa using row3.cell hj'
  go_wp2_with fail
  refine (isZero_any _ (ts.take kn) w3 (by simp; omega) hVL).mono ?_
  rintro e w4 ⟨rfl, hb4⟩
  have s3 := c3.size
  have c4 := c3.trans (hb4.mono s3)
  have r4 := r3.below hb4 r3.lt
  have row4 := row3.below hb4 row3.lt
  clear c3 r3 hb4 row3 hVL
  obtain ⟨bL, hbL⟩ : ∃ b, b = (ts.take kn).all z := ⟨_, rfl⟩
  rw [← hbL]
  have HL := Lib.hid hbL
  clear hbL
  have hVR : ∀ off, (0 < ts.length - kn → off = kn * 2) → Sl w4 (.slice (some ⟨g, off, none⟩) (ts.length - kn) (ts.length - kn)) (ts.drop kn).length 2 (pCells (ts.drop kn)) := by
    intro off ho
    have hl' : (ts.drop kn).length = ts.length - kn := by simp
    refine .inr ⟨⟨g, off, none⟩, ts.length - kn, by rw [hl'], by omega, pCells_length _, fun j u hj => ?_⟩
    have hjl := (List.getElem?_eq_some_iff.1 hj).1
    rw [pCells_length, hl'] at hjl
    rw [pCells_drop, List.getElem?_drop] at hj
    rw [Addr.add_lit, ho (by omega)]
    exact row4.cell hj
  obtain ⟨bR, hbR⟩ : ∃ b, b = (ts.drop kn).all z := ⟨_, rfl⟩
  have HR := Lib.hid hbR
  go_upto_region 10 with fail
  go_cut [10] (fun v wc => v = .bool bR ∧ Below w4.heap.size w4 wc)
  case first =>
    by_cases hlt : kn < ts.length
    · go_wp2_with fail
      refine (isZero_any _ (ts.drop kn) w4 (by simp; omega) (hVR _ (fun _ => rfl))).mono ?_
      rintro e w5 ⟨rfl, hb5⟩
      rw [← hbR]
      clear hbR
      go_wp2
      go_meet
      exact ⟨rfl, hb5⟩
    · have hke : kn = ts.length := by omega
      subst hke
      rw [Nat.sub_self] at hVR
      go_wp2_with fail
      refine (isZero_any _ (ts.drop ts.length) w4 (by simp) (hVR 0 (fun h => absurd h (by omega)))).mono ?_
      rintro e w5 ⟨rfl, hb5⟩
      rw [← hbR]
      clear hbR
      go_wp2
      go_meet
      exact ⟨rfl, hb5⟩
  case rest =>
    obtain ⟨rfl, hb5⟩ := hcut
    have s4 := c4.size
    have c5 := c4.trans (hb5.mono s4)
    have r5 := r4.below hb5 r4.lt
    have row5 := row4.below hb5 row4.lt
    clear hVR hbR c4 r4 row4 hb5
    have hmk : ∀ W, (Instr.makeSlice 28 (.int .i64 0) (.int .i64 ((ts.length : Int) + 1))).run Try.prog W = .ok (.slice (some ⟨W.heap.size, 0, none⟩) 0 (ts.length + 1)) (W.alloc (.cells (pCells (List.replicate (ts.length + 1) (0, 0))).toArray 31)) := fun W => by
      have := make28 W 0 (ts.length + 1) (Nat.zero_le _) (by omega)
      simpa using this
    go_wp2
    go_loopw [11, 12] (fun v i wr => ∃ j : Nat, j ≤ kn ∧ i = .int .i64 j ∧ wr.ownsRow wc.heap.size 31 2 v j (pCells (ts.take j)) ∧ Below wc.heap.size wc wr) (fun _ i _ => kn - (intOf i).toNat)
    case atStart => exact ⟨0, Nat.zero_le _, rfl, World.ownsRow_made wc _ _ (Nat.le_refl _) (by unfold maxLen; omega) (by simp [pCells_length]), (Below.refl _ _).alloc (Nat.le_refl _) _⟩
    case round =>
      clear hmk
      obtain ⟨j, hj, rfl, hown, hb⟩ := hrel
      have hsz := hb.size
      by_cases hlt : j < kn
      · obtain ⟨e, he⟩ : ∃ e, ts[j]? = some e := ⟨_, List.getElem?_eq_getElem (by omega)⟩
        obtain ⟨q0, q1⟩ := pCells_at ts j e he
        have row6 := row5.below hb row5.lt
        have g0 := row6.cell q0
        have g1 := row6.cell q1
        have HT := Lib.hid (show pCells (ts.take j) ++ [.int .i64 e.1, .int .u64 e.2] = pCells (ts.take (j + 1)) by
          rw [List.take_add_one, he, pCells_append]; rfl)
        have hi1 : (j : Int) < (ts.length : Int) := by omega
        clear q0 q1 he row6
        go_wp2_with (at_builtin; refine wpList_append_own _ rfl _ _ 28 rfl wc.heap.size 31 i0 _ 2 16 Try.underlying28 hi hz0 hz1 hz2 rfl (by decide) _ _ _ rfl (hown.alloc _) ⟨wr.heap.size, 0, none⟩ 1 1 [.int .i64 e.1, .int .u64 e.2] rfl rfl (cells_two _ _ _ _) (by intro u' hu'; simp at hu'; rcases hu' with rfl | rfl <;> rfl) (by unfold maxLen; omega) (by omega) (by simp; omega) ?_)
        intro v1 w6 hown6 hg6 _
        have hb6 : Below wc.heap.size wc w6 := (hb.alloc (by omega) _).grown hg6 (by simp; omega) (fun k hk => (hown.lt k hk).1)
        rw [HT.out] at hown6
        clear hg6 hown hb g0 g1
        go_wp2
        go_roundw
        case rel => exact ⟨j + 1, by omega, by go_num, hown6, hb6⟩
        case measure => simp [intOf]; omega
      · have hje : kn = j := by omega
        subst hje
        have r6 := r5.below hb r5.lt
        have d0 := r6.cell (j := 0) rfl
        have d1 := r6.cell (j := 1) rfl
        clear r6
        go_wp2_with (at_builtin; refine wpList_append_own _ rfl _ _ 28 rfl wc.heap.size 31 i0 _ 2 16 Try.underlying28 hi hz0 hz1 hz2 rfl (by decide) _ _ _ rfl (hown.alloc _) ⟨wr.heap.size, 0, none⟩ 1 1 [.int .i64 x, .int .u64 y] rfl rfl (cells_two _ _ _ _) (by intro u' hu'; simp at hu'; rcases hu' with rfl | rfl <;> rfl) (by unfold maxLen; omega) (by omega) (by simp; omega) ?_)
        intro v1 w6 hown6 hg6 _
        have hb6 : Below wc.heap.size wc w6 := (hb.alloc (by omega) _).grown hg6 (by simp; omega) (fun k hk => (hown.lt k hk).1)
        clear hg6 hown hb d0 d1
        go_wp2
        go_loopw [11, 13] (fun v i wr => ∃ j : Nat, j ≤ ts.length - kn ∧ i = .int .i64 ((kn + j : Nat) : Int) ∧ wr.ownsRow wc.heap.size 31 2 v (kn + 1 + j) (pCells (put ts kn (x, y) j)) ∧ Below wc.heap.size wc wr) (fun _ i _ => ts.length - (intOf i).toNat)
        case atStart => exact ⟨0, Nat.zero_le _, rfl, by rw [put_zero]; exact hown6, hb6⟩
        case round =>
          clear hown6 hb6 hsz
          obtain ⟨j, hj, rfl, hown, hb⟩ := hrel
          have hsz := hb.size
          by_cases hlt : j < ts.length - kn
          · obtain ⟨e, he⟩ : ∃ e, ts[kn + j]? = some e := ⟨_, List.getElem?_eq_getElem (by omega)⟩
            obtain ⟨q0, q1⟩ := pCells_at ts (kn + j) e he
            have row6 := row5.below hb row5.lt
            have g0 := row6.cell q0
            have g1 := row6.cell q1
            have HT := Lib.hid (put_succ ts kn (x, y) e j he)
            obtain ⟨m, hm⟩ : ∃ m, m = kn + j := ⟨_, rfl⟩
            rw [← hm] at g0 g1 ⊢
            have hi1 : (m : Int) < (ts.length : Int) := by omega
            have HM := Lib.hid hm
            clear q0 q1 he row6 hm
            go_wp2_with (at_builtin; refine wpList_append_own _ rfl _ _ 28 rfl wc.heap.size 31 i0 _ 2 16 Try.underlying28 hi hz0 hz1 hz2 rfl (by decide) _ _ _ rfl (hown.alloc _) ⟨wr.heap.size, 0, none⟩ 1 1 [.int .i64 e.1, .int .u64 e.2] rfl rfl (cells_two _ _ _ _) (by intro u' hu'; simp at hu'; rcases hu' with rfl | rfl <;> rfl) (by unfold maxLen; omega) (by omega) (by simp; omega) ?_)
            intro v1 w6 hown6 hg6 _
            have hb6 : Below wc.heap.size wc w6 := (hb.alloc (by omega) _).grown hg6 (by simp; omega) (fun k hk => (hown.lt k hk).1)
            rw [HT.out] at hown6
            clear hg6 hown hb g0 g1
            go_wp2
            go_roundw
            case rel => exact ⟨j + 1, by omega, by rw [HM.out]; go_num, hown6, hb6⟩
            case measure => simp [intOf]; omega
          · have hje : j = ts.length - kn := by omega
            have hV := Sl.ofOwns hown
            rw [← put_length ts kn (x, y) j hk (by omega)] at hV
            have hPA := put_all ts kn (x, y)
            rw [← hje] at hPA
            obtain ⟨m, hm⟩ : ∃ m, m = kn + j := ⟨_, rfl⟩
            rw [← hm]
            have hi1 : ¬ (m : Int) < (ts.length : Int) := by omega
            have r6 := r5.below hb r5.lt
            have d0 := r6.cell (j := 0) rfl
            have d1 := r6.cell (j := 1) rfl
            have hbw := c5.trans (hb.mono c5.size)
            have hmk2 : ∀ W, (Instr.makeSlice 28 (.int .i64 (ts.length : Int)) (.int .i64 (ts.length : Int))).run Try.prog W = .ok (.slice (some ⟨W.heap.size, 0, none⟩) ts.length ts.length) (W.alloc (.cells (pCells (List.replicate ts.length (0, 0))).toArray 31)) := fun W => make28 W ts.length ts.length (Nat.le_refl _) (by omega)
            have hI := Lib.hid (show (put ts kn (x, y) j).all z = (bL && z (x, y) && bR) by rw [hPA, HL.out, HR.out])
            have hpl : (put ts kn (x, y) j).length ≤ 1048576 := by rw [put_length ts kn (x, y) j hk (by omega)]; omega
            have HWW := Lib.hid (show bW = (bL && bR) by rw [HW.out, HL.out, HR.out]; exact all_cut ts kn)
            clear hPA hown HW HL HR r6 hm hje
            go_upto_region 21 with fail
            go_cut [14] (fun v wc' => v = .bool (z (x, y)) ∧ wr = wc')
            case first =>
              by_cases hx0 : x = 0
              · subst hx0
                by_cases hy0 : y = 0
                · subst hy0
                  go_wp2
                  go_meet
                  exact ⟨rfl, rfl⟩
                · have hzz := Lib.hid (show z (0, y) = false by simp [z, hy0])
                  go_wp2
                  go_meet
                  first | exact ⟨congrArg Value.bool hzz.out.symm, rfl⟩ | exact ⟨rfl, rfl⟩
              · have hzz := Lib.hid (show z (x, y) = false by simp [z, hx0])
                go_wp2
                go_meet
                exact ⟨congrArg Value.bool hzz.out.symm, rfl⟩
            case rest =>
              obtain ⟨rfl, rfl⟩ := hcut
              have hI' := hI.out
              obtain ⟨bE, hbE⟩ : ∃ b, b = z (x, y) := ⟨_, rfl⟩
              rw [← hbE] at hI' ⊢
              have hWW := HWW.out
              have hZ := all_zeros ts.length
              have hzl : (List.replicate ts.length ((0 : Int), (0 : Int))).length = ts.length := by simp
              have hA : Below wr.heap.size wr (wr.alloc (.cells (pCells (List.replicate ts.length (0, 0))).toArray 31)) := (Below.refl _ _).alloc (Nat.le_refl _) _
              have hVA := hV.on hA
              have hVZ : Sl (wr.alloc (.cells (pCells (List.replicate ts.length (0, 0))).toArray 31)) (.slice (some ⟨wr.heap.size, 0, none⟩) ts.length ts.length) (List.replicate ts.length ((0 : Int), (0 : Int))).length 2 (pCells (List.replicate ts.length (0, 0))) := by
                have := Sl.ofRow (Row.new wr 31 (pCells (List.replicate ts.length (0, 0)))) (n := ts.length) (sz := 2) (c := ts.length) (by rw [pCells_length]; simp) (Nat.le_refl _)
                rwa [hzl]
              have hcA := isZero_any u11 (put ts kn (x, y) j) _ hpl hVA
              rw [hI'] at hcA
              have hcZ : ∀ W, Below (wr.heap.size + 1) (wr.alloc (.cells (pCells (List.replicate ts.length (0, 0))).toArray 31)) W → Calls Try.prog 6 #[.slice (some ⟨wr.heap.size, 0, none⟩) ts.length ts.length] W fun e w' => e = .returned (.bool true) ∧ Below W.heap.size W w' := fun W hW => by
                have := isZero_any (.slice (some ⟨wr.heap.size, 0, none⟩) ts.length ts.length) (List.replicate ts.length (0, 0)) W (by simp; omega) (hVZ.on (by simpa using hW))
                rwa [hZ] at this
              have hfin : ∀ W W', Below (wr.heap.size + 1) (wr.alloc (.cells (pCells (List.replicate ts.length (0, 0))).toArray 31)) W → Below W.heap.size W W' → Below w.heap.size w W' := fun W W' h1 h2 => by
                have hs := h1.size
                simp at hs
                exact hbw.trans ((hA.trans ((h1.mono (by omega)).trans (h2.mono (by omega)))).mono hbw.size)
              clear hbE hI hI' HWW hZ hzl hVA hVZ hV hA
              cases bL <;> cases bR <;> cases bE <;> (subst hWW; go_wp2_with fail; refine hcA.mono ?_; rintro e w7 ⟨rfl, hb7⟩; go_wp2_with fail; refine (hcZ w7 (by simpa using hb7)).mono ?_; rintro e w8 ⟨rfl, hb8⟩; have hF := hfin w7 w8 (by simpa using hb7) hb8; go_wp2; go_ret; exact ⟨rfl, hF⟩)

set_option maxRecDepth 20000 in
set_option maxHeartbeats 8000000 in
theorem law_nil (x y : Int) (w : World) :
    Calls Try.prog 3 #[.slice none 0 0, .int .i64 0, .agg #[.int .i64 x, .int .u64 y]] w fun e w' => e = .returned (.bool true) ∧ Below w.heap.size w w' := by
  obtain ⟨i0, hi, hz0, hz1, hz2⟩ := info_parts Try.info31
  have hbox : Below w.heap.size w (w.alloc (.cells #[.int .i64 x, .int .u64 y] 25)) := (Below.refl _ _).alloc (Nat.le_refl _) _
  have rbox := Row.new w 25 [.int .i64 x, .int .u64 y]
  have hN : ∀ W : World, Sl W (.slice none 0 0) ([] : List (Int × Int)).length 2 (pCells []) := fun W => .inl ⟨rfl, rfl, rfl⟩
  go_enter Try.func3, Try.ntmps3
  go_wp2_with fail
  refine (bytes_any _ _ _ _ x y _).mono ?_
  rintro e w1 ⟨rfl, hb1⟩
  rw [decide_eq_true (show 0 ≤ 1048576 by omega)]
  have c1 := hbox.trans (hb1.mono (by simp))
  have r1 := rbox.below hb1 (by simp)
  clear hbox rbox hb1
  go_wp2_with fail
  refine (toTally_nil w1).mono ?_
  rintro e w2 ⟨rfl, rfl⟩
  go_wp2_with fail
  refine (isZero_any _ [] w2 (by simp) (hN _)).mono ?_
  rintro e w3 ⟨rfl, hb3⟩
  have s2 := c1.size
  have c3 := c1.trans (hb3.mono s2)
  have r3 := r1.below hb3 r1.lt
  clear c1 r1 hb3
  rw [List.all_nil]
  go_wp2_with fail
  refine (isZero_any _ [] w3 (by simp) (hN _)).mono ?_
  rintro e w4 ⟨rfl, hb4⟩
  have s3 := c3.size
  have c4 := c3.trans (hb4.mono s3)
  have r4 := r3.below hb4 r3.lt
  clear c3 r3 hb4
  rw [List.all_nil]
  go_wp2_with fail
  refine (isZero_any _ [] w4 (by simp) (hN _)).mono ?_
  rintro e wc ⟨rfl, hb5⟩
  have s4 := c4.size
  have c5 := c4.trans (hb5.mono s4)
  have r5 := r4.below hb5 r4.lt
  clear c4 r4 hb5
  rw [List.all_nil]
  have s5 := c5.size
  have hmk := make28 wc 0 1 (by omega) (by omega)
  simp only [Int.natCast_zero, Int.natCast_one] at hmk
  go_wp2
  go_loopw [11, 12] (fun v i wr => i = .int .i64 0 ∧ wr.ownsRow wc.heap.size 31 2 v 0 [] ∧ Below wc.heap.size wc wr) (fun _ _ _ => 0)
  case atStart => exact ⟨rfl, World.ownsRow_made wc _ _ (Nat.le_refl _) (by unfold maxLen; omega) (by simp [pCells_length]), (Below.refl _ _).alloc (Nat.le_refl _) _⟩
  case round =>
    clear hmk
    obtain ⟨rfl, hown, hb⟩ := hrel
    have hsz := hb.size
    have r6 := r5.below hb r5.lt
    have d0 := r6.cell (j := 0) rfl
    have d1 := r6.cell (j := 1) rfl
    clear r6
    go_wp2_with (at_builtin; refine wpList_append_own _ rfl _ _ 28 rfl wc.heap.size 31 i0 _ 2 16 Try.underlying28 hi hz0 hz1 hz2 rfl (by decide) _ _ _ rfl (hown.alloc _) ⟨wr.heap.size, 0, none⟩ 1 1 [.int .i64 x, .int .u64 y] rfl rfl (cells_two _ _ _ _) (by intro u' hu'; simp at hu'; rcases hu' with rfl | rfl <;> rfl) (by unfold maxLen; omega) (by omega) (by simp; omega) ?_)
    intro v1 w6 hown6 hg6 _
    have hb6 : Below wc.heap.size wc w6 := (hb.alloc (by omega) _).grown hg6 (by simp; omega) (fun k hk => (hown.lt k hk).1)
    clear hg6 hown hb d0 d1 hsz
    go_wp2
    go_loopw [11, 13] (fun v i wr => i = .int .i64 0 ∧ wr.ownsRow wc.heap.size 31 2 v 1 (pCells [(x, y)]) ∧ Below wc.heap.size wc wr) (fun _ _ _ => 0)
    case atStart => exact ⟨rfl, hown6, hb6⟩
    case round =>
      clear hown6 hb6
      obtain ⟨rfl, hown, hb⟩ := hrel
      have hsz := hb.size
      have hV : Sl wr u11 [(x, y)].length 2 (pCells [(x, y)]) := Sl.ofOwns hown
      have r6 := r5.below hb r5.lt
      have d0 := r6.cell (j := 0) rfl
      have d1 := r6.cell (j := 1) rfl
      have hbw := c5.trans (hb.mono c5.size)
      have hmk2 : ∀ W, (Instr.makeSlice 28 (.int .i64 0) (.int .i64 0)).run Try.prog W = .ok (.slice (some ⟨W.heap.size, 0, none⟩) 0 0) (W.alloc (.cells (pCells []).toArray 31)) := fun W => by
        have := make28 W 0 0 (Nat.le_refl _) (by omega)
        simpa using this
      clear hown r6
      go_upto_region 21 with fail
      go_cut [14] (fun v wc' => v = .bool (z (x, y)) ∧ wr = wc')
      case first =>
        by_cases hx0 : x = 0
        · subst hx0
          by_cases hy0 : y = 0
          · subst hy0
            go_wp2
            go_meet
            exact ⟨rfl, rfl⟩
          · have hzz := Lib.hid (show z (0, y) = false by simp [z, hy0])
            go_wp2
            go_meet
            first | exact ⟨congrArg Value.bool hzz.out.symm, rfl⟩ | exact ⟨rfl, rfl⟩
        · have hzz := Lib.hid (show z (x, y) = false by simp [z, hx0])
          go_wp2
          go_meet
          exact ⟨congrArg Value.bool hzz.out.symm, rfl⟩
      case rest =>
        obtain ⟨rfl, rfl⟩ := hcut
        obtain ⟨bE, hbE⟩ : ∃ b, b = z (x, y) := ⟨_, rfl⟩
        have hA : Below wr.heap.size wr (wr.alloc (.cells (pCells []).toArray 31)) := (Below.refl _ _).alloc (Nat.le_refl _) _
        have hVA := hV.on hA
        have hcA := isZero_any u11 [(x, y)] _ (by simp) hVA
        have hall : [(x, y)].all z = bE := by rw [hbE]; simp
        rw [hall] at hcA
        rw [← hbE]
        have hcZ : ∀ W, Calls Try.prog 6 #[.slice (some ⟨wr.heap.size, 0, none⟩) 0 0] W fun e w' => e = .returned (.bool true) ∧ Below W.heap.size W w' := fun W =>
          isZero_any (.slice (some ⟨wr.heap.size, 0, none⟩) 0 0) [] W (by simp) (.inr ⟨_, 0, rfl, Nat.le_refl _, rfl, fun j u hj => by cases hj⟩)
        have hfin : ∀ W W', Below (wr.heap.size + 1) (wr.alloc (.cells (pCells []).toArray 31)) W → Below W.heap.size W W' → Below w.heap.size w W' := fun W W' h1 h2 => by
          have hs := h1.size
          simp at hs
          exact hbw.trans ((hA.trans ((h1.mono (by omega)).trans (h2.mono (by omega)))).mono hbw.size)
        clear hbE hall hVA hV hA
        cases bE <;> (go_wp2_with fail; refine hcA.mono ?_; rintro e w7 ⟨rfl, hb7⟩; go_wp2_with fail; refine (hcZ w7).mono ?_; rintro e w8 ⟨rfl, hb8⟩; have hF := hfin w7 w8 (by simpa using hb7) hb8; go_wp2; go_ret; exact ⟨rfl, hF⟩)

theorem law_any (v : Value) (ts : List (Int × Int)) (k x y : Int) (w : World) (h : Sl w v ts.length 2 (pCells ts)) :
    Calls Try.prog 3 #[v, .int .i64 k, .agg #[.int .i64 x, .int .u64 y]] w fun e w' => e = .returned (.bool true) ∧ Below w.heap.size w w' := by
  by_cases hin : ts.length ≤ 65536 ∧ 0 ≤ k ∧ k ≤ (ts.length : Int)
  · obtain ⟨h1, h2, h3⟩ := hin
    have h' := h
    rcases h with ⟨rfl, e1, e2⟩ | ⟨ad, c, rfl, _⟩
    · have hk : k = 0 := by omega
      subst hk
      exact law_nil x y w
    · obtain ⟨kn, rfl⟩ : ∃ kn : Nat, k = kn := ⟨k.toNat, by omega⟩
      exact law_some ad c ts kn x y w h1 (by omega) h'
  · obtain ⟨ao, c, rfl⟩ := h.shape
    have hB0 : Below w.heap.size w (w.alloc (.cells #[.int .i64 x, .int .u64 y] 25)) := (Below.refl _ _).alloc (Nat.le_refl _) _
    go_enter Try.func3, Try.ntmps3
    go_wp2_with fail
    refine (bytes_any _ _ _ _ x y _).mono ?_
    rintro e w1 ⟨rfl, hb1⟩
    have hB := hB0.trans (hb1.mono (by simp))
    clear hB0 hb1
    by_cases hm : ts.length ≤ 1048576
    · rw [decide_eq_true hm]
      by_cases l1 : ts.length ≤ 65536
      · by_cases k0 : k < 0
        · go_wp2
          go_ret
          exact ⟨rfl, hB⟩
        · have k1 : (ts.length : Int) < k := by omega
          go_wp2
          go_ret
          exact ⟨rfl, hB⟩
      · have l2 : (65536 : Int) < (ts.length : Int) := by omega
        go_wp2
        go_ret
        exact ⟨rfl, hB⟩
    · rw [decide_eq_false hm]
      go_wp2
      go_ret
      exact ⟨rfl, hB⟩

end Go.Proofs.Qxb6628239a

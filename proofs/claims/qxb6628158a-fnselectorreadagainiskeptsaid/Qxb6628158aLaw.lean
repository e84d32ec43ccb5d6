/-
  THE WALK of the law (3).
-/
import Derived.Test.Qxb6628158aBytes
import Derived.Test.Qxb6628158aPlain
import Derived.LaidEqlPtr
namespace Go.Proofs.Qxb6628158a
open Go.RowKit

theorem Try.info38 : (Try.prog.info? 38).map (fun i => (i.zero, i.size)) = some (some (.agg #[.map none, .slice none 0 0]), 2) := by kernel_rfl
theorem eqptr (W : World) (a : Addr) : (binOp .eql 29 (.pointer (some a)) (.pointer (some a))).run Try.prog W = .ok (.bool true) W := by
  cases h : Try.prog.info? 38 with
  | none => have := Try.info38; rw [h] at this; cases this
  | some j => exact run_eql_ptr_same W a Try.underlying29 h

set_option maxRecDepth 20000 in
set_option maxHeartbeats 8000000 in
theorem law_any (b : Bool) (v0 v1 v2 v3 : Value) (ps ls : List (ByteArray × ByteArray)) (rs : List Rq) (ks : List ByteArray) (n : Int) (t u : ByteArray) (p1 p2 p3 : Option Addr) (w : World)
    (h0 : Sl w v0 ps.length 2 (prCells ps)) (z0 : ∀ p ∈ ps, p.1.size ≤ maxLen ∧ p.2.size ≤ maxLen)
    (h1 : ReqsIn w v1 rs) (z1 : ∀ r ∈ rs, r.wide) (h2 : Sl w v2 ks.length 1 (strs ks)) (z2 : ∀ k ∈ ks, k.size ≤ maxLen)
    (h3 : Sl w v3 ls.length 2 (prCells ls)) (z3 : ∀ p ∈ ls, p.1.size ≤ maxLen ∧ p.2.size ≤ maxLen) (ht : t.size ≤ maxLen) (hu : u.size ≤ maxLen)
    (hp1 : ∀ a, p1 = some a → ∃ n, w.cell? a = some (.int .i32 n)) (hp2 : ∀ a, p2 = some a → ∃ s, w.cell? a = some (.string s) ∧ s.size ≤ maxLen) (hp3 : ∀ a, p3 = some a → ∃ s, w.cell? a = some (.string s) ∧ s.size ≤ maxLen) :
    Calls Try.prog 3 #[.bool b, v0, v1, v2, v3, .int .i32 n, .string t, .string u, .pointer p1, .pointer p2, .pointer p3] w fun e w' => e = .returned (.bool true) ∧ Below w.heap.size w w' := by
  obtain ⟨a0, c0, rfl⟩ := h0.shape
  obtain ⟨a1, c1, rfl⟩ := h1.1.shape
  obtain ⟨a2, c2, rfl⟩ := h2.shape
  obtain ⟨a3, c3, rfl⟩ := h3.shape
  have hp2' : ∀ a, p2 = some a → ∃ s, w.cell? a = some (.string s) := fun a ha => by obtain ⟨s, hs, _⟩ := hp2 a ha; exact ⟨s, hs⟩
  have hp3' : ∀ a, p3 = some a → ∃ s, w.cell? a = some (.string s) := fun a ha => by obtain ⟨s, hs, _⟩ := hp3 a ha; exact ⟨s, hs⟩
  go_enter Try.func3, Try.ntmps3
  go_wp2_with fail
  refine (bytes_any b _ _ _ _ ps ls rs ks n t u p1 p2 p3 w h0 h1 h2 h3 hp2 hp3).mono ?_
  rintro e w1 ⟨q, rfl, hq, rfl⟩
  cases q
  · go_wp2
    go_ret
    exact ⟨rfl, Below.refl _ _⟩
  have hsh := hq rfl
  have hR : ReqsAt w (.slice a1 rs.length c1) rs := ⟨h1.1, fun r hr => ⟨hsh r hr, h1.2 r hr⟩⟩
  clear h1 hq hsh
  by_cases l0 : ps.length ≤ 4096
  case neg =>
    have l0' : (4096 : Int) < (ps.length : Int) := by omega
    go_wp2
    go_ret
    exact ⟨rfl, Below.refl _ _⟩
  by_cases l1 : rs.length ≤ 4096
  case neg =>
    have l0' : (4096 : Int) < (rs.length : Int) := by omega
    go_wp2
    go_ret
    exact ⟨rfl, Below.refl _ _⟩
  by_cases l2 : ks.length ≤ 4096
  case neg =>
    have l0' : (4096 : Int) < (ks.length : Int) := by omega
    go_wp2
    go_ret
    exact ⟨rfl, Below.refl _ _⟩
  by_cases l3 : ls.length ≤ 4096
  case neg =>
    have l0' : (4096 : Int) < (ls.length : Int) := by omega
    go_wp2
    go_ret
    exact ⟨rfl, Below.refl _ _⟩
  have e0 : decide ((4096 : Int) < (ps.length : Int)) = false := decide_eq_false (by omega)
  have e1 : decide ((4096 : Int) < (rs.length : Int)) = false := decide_eq_false (by omega)
  have e2 : decide ((4096 : Int) < (ks.length : Int)) = false := decide_eq_false (by omega)
  have e3 : decide ((4096 : Int) < (ls.length : Int)) = false := decide_eq_false (by omega)
  go_wp2_with fail
  refine (over_any _ _ _ _ ps ls rs ks t u p2 p3 w h0 l0 z0 hR l1 z1 h2 l2 z2 h3 l3 z3 ht hu hp2 hp3).mono ?_
  rintro e w1 ⟨⟨q, rfl⟩, hw1⟩
  obtain rfl := hw1.symm
  clear hw1
  cases q
  case true =>
    go_wp2
    go_ret
    exact ⟨rfl, Below.refl _ _⟩
  clear hp2 hp3
  cases b
  · go_wp2_with fail
    refine (build_no _ _ _ n t u p1 p2 p3 ks w (by omega) h2 hp1 hp2' hp3').mono ?_
    rintro e w1 ⟨kv, q1, q2, q3, rfl, hkv, hb1⟩
    obtain ⟨ka, kc, rfl⟩ := hkv.shape
    have hs1 := hb1.size
    go_wp2_with fail
    have hA : Below w1.heap.size w1 (w1.alloc (.cells (List.toArray [.int .i32 n, .string t, .string u, .pointer none, .slice ka ks.length kc, .pointer q1, .pointer q2, .pointer q3]) 31)) := (Below.refl _ _).alloc (Nat.le_refl _) _
    have hr1 := Row.new w1 31 [.int .i32 n, .string t, .string u, .pointer none, .slice ka ks.length kc, .pointer q1, .pointer q2, .pointer q3]
    refine (map_any _ ls _ (by omega) z3 ((h3.on hb1).on hA)).mono ?_
    rintro e w2 ⟨m1, rfl, hm1, hb2⟩
    have hr2 := hr1.below hb2 (by simp)
    have hb12 : Below w1.heap.size w1 w2 := hA.trans (hb2.mono (by simp))
    have hbw2 := hb1.trans (hb12.mono hs1)
    clear hA hb2 hr1
    go_wp2_with fail
    refine (map_any _ ls w2 (by omega) z3 (h3.on hbw2)).mono ?_
    rintro e w3 ⟨m2, rfl, hm2, hb3⟩
    have hr3 := hr2.below hb3 hr2.lt
    have hm1' := hm1.on hb3
    have hb13 := hb12.trans (hb3.mono hb12.size)
    have hbw3 := hb1.trans (hb13.mono hs1)
    have hs3 := hbw3.size
    have hkv3 := hkv.on hb13
    clear hm1 hr2 hb3 hb12 hbw2
    have d0 := hr3.cell (j := 0) rfl
    have d1 := hr3.cell (j := 1) rfl
    have d2 := hr3.cell (j := 2) rfl
    have d3 := hr3.cell (j := 3) rfl
    have d4 := hr3.cell (j := 4) rfl
    have d5 := hr3.cell (j := 5) rfl
    have d6 := hr3.cell (j := 6) rfl
    have d7 := hr3.cell (j := 7) rfl
    go_wp2_with fail
    refine (sel_none n t u ka ks.length kc q1 q2 q3 (.map m1) w3).mono ?_
    rintro e w4 ⟨rfl, hb4⟩
    go_wp2
    go_ret
    exact ⟨rfl, hbw3.trans (hb4.mono hs3)⟩
  · go_wp2_with fail
    refine (build_yes _ _ _ n t u p1 p2 p3 ks ps rs w (by omega) h2 (by omega) z0 h0 l1 hR hp1 hp2' hp3').mono ?_
    rintro e w1 ⟨g, kv, q1, q2, q3, qs, rfl, hkv, hsel, hqs, hb1⟩
    obtain ⟨ka, kc, rfl⟩ := hkv.shape
    have hs1 := hb1.size
    have HQS := Lib.hid hqs
    clear hqs
    go_wp2_with fail
    have hA : Below w1.heap.size w1 (w1.alloc (.cells (List.toArray [.int .i32 n, .string t, .string u, .pointer (some ⟨g, 0, none⟩), .slice ka ks.length kc, .pointer q1, .pointer q2, .pointer q3]) 31)) := (Below.refl _ _).alloc (Nat.le_refl _) _
    have hr1 := Row.new w1 31 [.int .i32 n, .string t, .string u, .pointer (some ⟨g, 0, none⟩), .slice ka ks.length kc, .pointer q1, .pointer q2, .pointer q3]
    refine (map_any _ ls _ (by omega) z3 ((h3.on hb1).on hA)).mono ?_
    rintro e w2 ⟨m1, rfl, hm1, hb2⟩
    have hr2 := hr1.below hb2 (by simp)
    have hb12 : Below w1.heap.size w1 w2 := hA.trans (hb2.mono (by simp))
    have hbw2 := hb1.trans (hb12.mono hs1)
    clear hA hb2 hr1
    go_wp2_with fail
    refine (map_any _ ls w2 (by omega) z3 (h3.on hbw2)).mono ?_
    rintro e w3 ⟨m2, rfl, hm2, hb3⟩
    have hr3 := hr2.below hb3 hr2.lt
    have hm1' := hm1.on hb3
    have hb13 := hb12.trans (hb3.mono hb12.size)
    have hbw3 := hb1.trans (hb13.mono hs1)
    have hs3 := hbw3.size
    have hkv3 := hkv.on hb13
    clear hm1 hr2 hb3 hb12 hbw2
    have d0 := hr3.cell (j := 0) rfl
    have d1 := hr3.cell (j := 1) rfl
    have d2 := hr3.cell (j := 2) rfl
    have d3 := hr3.cell (j := 3) rfl
    have d4 := hr3.cell (j := 4) rfl
    have d5 := hr3.cell (j := 5) rfl
    have d6 := hr3.cell (j := 6) rfl
    have d7 := hr3.cell (j := 7) rfl
    go_wp2_with fail
    have hsel3 := hsel.on hb13
    refine (sel_first n t u g ka kc q1 q2 q3 (.map m1) ks ls rs qs w3 l2 hkv3 z2 l1 HQS.out hsel3 hm1').mono ?_
    rintro e w4 ⟨p1', qs1, rfl, hsel4, hK, hb4⟩
    obtain ⟨mo, ev, f0, f1, hev⟩ := hsel4
    obtain ⟨ea, ec, rfl⟩ := hev.1.shape
    have hKle := hK.le
    have hKmost := hK.most
    have HK := Lib.hid hK
    have hr4 := hr3.below hb4 hr3.lt
    have hbw4 := hbw3.trans (hb4.mono hs3)
    have hm14 := hm1'.on hb4
    have hm24 := hm2.on hb4
    have hkv4 := hkv3.on hb4
    have hs4 := hbw4.size
    clear hK hr3 hb4 hm1' hm2 hkv3 hkv hsel hsel3 d0 d1 d2 d3 d4 d5 d6 d7 hbw3 hb13
    have k1 : decide (qs1.length < rs.length) = false := decide_eq_false (by omega)
    have k2 : decide ((ks.length : Int) < (qs1.length : Int) - (rs.length : Int)) = false := decide_eq_false (by omega)
    go_wp2
    go_loopw [28] (fun i wr => ∃ k : Nat, k ≤ rs.length ∧ i = .int .i64 k ∧ Below w4.heap.size w4 wr) (fun i _ => rs.length - (intOf i).toNat)
    case atStart => exact ⟨0, Nat.zero_le _, rfl, Below.refl _ _⟩
    case round =>
      clear k1 k2
      obtain ⟨k, hk, rfl, hbr⟩ := hrel
      by_cases hlt : k < rs.length
      · obtain ⟨x, hx⟩ : ∃ x, rs[k]? = some x := ⟨_, List.getElem?_eq_getElem hlt⟩
        obtain ⟨y, hy⟩ : ∃ y, qs1[k]? = some y := ⟨_, List.getElem?_eq_getElem (by omega)⟩
        have hxy := HK.out.front k x y hx hy
        obtain ⟨q0, q1', q2'⟩ := rqCells_at rs k x hx
        obtain ⟨r0, r1, r2⟩ := rqCells_at qs1 k y hy
        have hbx := hbw4.trans (hbr.mono hs4)
        have hRx := hR.on hbx
        have hEx := hev.on hbr
        have hxo := hRx.2 x (List.mem_of_getElem? hx)
        have hyo := hEx.2 y (List.mem_of_getElem? hy)
        obtain ⟨b1, o1, c1', e1, _, hb1z, hc1⟩ := hRx.1.at (by rw [rqCells_length]; omega)
        obtain ⟨b2, o2, c2', e2, _, hb2z, hc2⟩ := hEx.1.at (by rw [rqCells_length]; omega)
        cases e1
        cases e2
        have g0 := hc1 _ _ q0
        have g1 := hc1 _ _ q1'
        have g2 := hc1 _ _ q2'
        have i0 := hc2 _ _ r0
        have i1 := hc2 _ _ r1
        have i2 := hc2 _ _ r2
        rw [← Nat.add_assoc] at g1 g2 i1 i2
        have hi : (k : Int) < (rs.length : Int) := by omega
        have hi2 : (k : Int) < (qs1.length : Int) := by omega
        have HXY := Lib.hid hxy
        clear hc1 hc2 q0 q1' q2' r0 r1 r2 hx hy hxy hRx hEx
        go_wp2
        go_region_held3 (fun w' => w'.cell? ⟨b1, o1 + k * 3, none⟩ = some (.string x.key) ∧ w'.cell? ⟨b1, o1 + k * 3 + 1, none⟩ = some (.string x.op) ∧ w'.cell? ⟨b1, o1 + k * 3 + 2, none⟩ = some x.v ∧ w'.cell? ⟨b2, o2 + k * 3, none⟩ = some (.string y.key) ∧ w'.cell? ⟨b2, o2 + k * 3 + 1, none⟩ = some (.string y.op) ∧ w'.cell? ⟨b2, o2 + k * 3 + 2, none⟩ = some y.v) (simp [*, go_sem])
          (first | (go_at_call 9; refine (sameReq_any y x wr.drew hyo hxo HXY.out).mono ?_; rintro e w5 ⟨rfl, hb5⟩; have s0 := (hb5.cell (p := ⟨b1, o1 + k * 3, none⟩) hb1z).trans g0; have s1 := (hb5.cell (p := ⟨b1, o1 + k * 3 + 1, none⟩) hb1z).trans g1; have s2 := (hb5.cell (p := ⟨b1, o1 + k * 3 + 2, none⟩) hb1z).trans g2; have s3 := (hb5.cell (p := ⟨b2, o2 + k * 3, none⟩) hb2z).trans i0; have s4 := (hb5.cell (p := ⟨b2, o2 + k * 3 + 1, none⟩) hb2z).trans i1; have s5 := (hb5.cell (p := ⟨b2, o2 + k * 3 + 2, none⟩) hb2z).trans i2))
        have hb5' : Below wr.heap.size wr w5 := (show Below wr.heap.size wr wr.drew from (Below.refl _ _).drew).trans (by assumption)
        have hb6 := hbr.trans (hb5'.mono hbr.size)
        go_wp2
        go_roundw
        case rel => exact ⟨k + 1, by omega, by go_num, hb6⟩
        case measure => simp [intOf]; omega
      · go_wp2
        go_loopw [29] (fun i wr => ∃ k : Nat, k ≤ ks.length ∧ i = .int .i64 k ∧ Below w4.heap.size w4 wr) (fun i _ => ks.length - (intOf i).toNat)
        case atStart => exact ⟨0, Nat.zero_le _, rfl, hbr⟩
        case round =>
          clear hbr
          obtain ⟨j, hj, rfl, hbr⟩ := hrel
          by_cases hlt2 : j < ks.length
          · obtain ⟨x, hx⟩ : ∃ x, x = ks.getD j emp := ⟨_, rfl⟩
            have hxm : x ∈ ks := by rw [hx, getD_at _ _ hlt2]; exact List.getElem_mem _
            have hbx := hbw4.trans (hbr.mono hs4)
            obtain ⟨b1, o1, c1', e1, _, hb1z, hc1⟩ := (h2.on hbx).at (by rw [strs_length]; omega)
            cases e1
            have g0 := hc1 _ _ (strs_at ks j hlt2)
            rw [← hx] at g0
            have hlk := hm24 wr hbr x (z2 x hxm)
            have hheld := HK.out.held x hxm
            obtain ⟨val, hval⟩ : ∃ z, z = lv ls x := ⟨_, rfl⟩
            obtain ⟨q, hq'⟩ : ∃ q, q = lb ls x := ⟨_, rfl⟩
            rw [← hval, ← hq'] at hlk hheld
            have HH := Lib.hid hheld
            have hi : (j : Int) < (ks.length : Int) := by omega
            clear hc1 hx hval hq' hheld
            cases q
            · go_wp2
              go_roundw
              case rel => exact ⟨j + 1, by omega, by go_num, hbr⟩
              case measure => simp [intOf]; omega
            · go_wp2_with fail
              refine (held_any _ qs1 x val wr (by omega) (hev.on hbr) (HH.out (by first | rfl | trivial))).mono ?_
              rintro e w5 ⟨rfl, hb5⟩
              have hb6 := hbr.trans (hb5.mono hbr.size)
              clear hlk
              go_wp2
              go_roundw
              case rel => exact ⟨j + 1, by omega, by go_num, hb6⟩
              case measure => simp [intOf]; omega
          · have hr5 := hr4.below hbr hr4.lt
            have hbx := hbw4.trans (hbr.mono hs4)
            have hsx := hbx.size
            have d0 := hr5.cell (j := 0) rfl
            have d1 := hr5.cell (j := 1) rfl
            have d2 := hr5.cell (j := 2) rfl
            have d3 := hr5.cell (j := 3) rfl
            have d4 := hr5.cell (j := 4) rfl
            have d5 := hr5.cell (j := 5) rfl
            have d6 := hr5.cell (j := 6) rfl
            have d7 := hr5.cell (j := 7) rfl
            go_wp2_with fail
            have hA : Below wr.heap.size wr (wr.alloc (.cells (List.toArray [.int .i32 n, .string t, .string u, .pointer (some ⟨p1', 0, none⟩), .slice ka ks.length kc, .pointer q1, .pointer q2, .pointer q3]) 31)) := (Below.refl _ _).alloc (Nat.le_refl _) _
            have hA4 := hbr.trans (hA.mono hbr.size)
            refine (sel_again n t u p1' ka kc q1 q2 q3 (.map m1) ks ls rs qs1 _ l2 (hkv4.on hA4) z2 l1 HK.out ⟨mo, _, (hA4.cell (World.block_lt_of_cell? w4 _ f0)).trans f0, (hA4.cell (World.block_lt_of_cell? w4 _ f1)).trans f1, hev.on hA4⟩ (hm14.on hA4)).mono ?_
            rintro e w5 ⟨rfl, hb5⟩
            have hqp := eqptr w5 ⟨p1', 0, none⟩
            have hb6 := hbw4.trans ((hA4.trans (hb5.mono hA4.size)).mono hs4)
            go_wp2
            go_ret
            exact ⟨rfl, hb6⟩

end Go.Proofs.Qxb6628158a

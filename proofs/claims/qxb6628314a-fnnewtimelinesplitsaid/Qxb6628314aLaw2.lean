/-
  THE WALK of the law FnNewTimelineSplit (4).
-/
import Derived.Test.Qxb6628314aLaw1
import Derived.Deep.SlicePairs
namespace Go.Proofs.Qxb6628314a
open Go.RowKit

attribute [local go_sem] run_eqptr run_eqfloat run_store_float

theorem sl_pre {w : World} {ao : Option Addr} {c kn : Nat} {es : List Ev} (h : Sl w (.slice ao es.length c) es.length 5 (es.flatMap Ev.spec)) (hk : kn ≤ es.length) :
    Sl w (.slice ao kn c) (es.take kn).length 5 ((es.take kn).flatMap Ev.spec) := by
  have hl : (es.take kn).length = kn := by rw [List.length_take]; omega
  rw [hl]
  rcases h with ⟨h1, h2, _⟩ | ⟨ad, c', h1, h2, h3, h4⟩
  · have : es = [] := List.eq_nil_of_length_eq_zero h2
    subst this
    obtain rfl : kn = 0 := by simpa using hk
    cases h1
    exact .inl ⟨rfl, rfl, rfl⟩
  · cases h1
    refine .inr ⟨ad, c, rfl, by omega, by rw [flat_len _ 5 spec_len, hl], fun j u hj => h4 j u ?_⟩
    rw [← List.take_append_drop kn es, List.flatMap_append, List.getElem?_append_left (List.getElem?_eq_some_iff.1 hj).1]
    exact hj
theorem sl_suf {w : World} {ao : Option Addr} {c kn : Nat} {es : List Ev} (h : Sl w (.slice ao es.length c) es.length 5 (es.flatMap Ev.spec)) (hk : kn ≤ es.length) :
    Sl w (.slice (if c = kn then ao else ao.map (·.add (kn * 5))) (es.length - kn) (c - kn)) (es.drop kn).length 5 ((es.drop kn).flatMap Ev.spec) := by
  have hl : (es.drop kn).length = es.length - kn := List.length_drop
  rw [hl]
  rcases h with ⟨h1, h2, _⟩ | ⟨ad, c', h1, h2, h3, h4⟩
  · have : es = [] := List.eq_nil_of_length_eq_zero h2
    subst this
    obtain rfl : kn = 0 := by simpa using hk
    cases h1
    exact .inl ⟨by simp, rfl, rfl⟩
  · cases h1
    by_cases hc : c = kn
    · rw [if_pos hc]
      have : es.drop kn = [] := List.eq_nil_of_length_eq_zero (by omega)
      rw [this]
      refine .inr ⟨ad, c - kn, rfl, by omega, by simp; omega, fun j u hj => by simp at hj⟩
    · rw [if_neg hc]
      refine .inr ⟨ad.add (kn * 5), c - kn, rfl, by omega, by rw [flat_len _ 5 spec_len, hl], fun j u hj => ?_⟩
      rw [Deep.add_add]
      refine h4 _ u ?_
      rw [← List.take_append_drop kn es, List.flatMap_append, List.getElem?_append_right (by rw [flat_len _ 5 spec_len, List.length_take]; omega), flat_len _ 5 spec_len, List.length_take, Nat.min_eq_left hk, Nat.add_sub_cancel_left]
      exact hj
theorem sl_suf1 {w : World} {ao : Option Addr} {c kn : Nat} {es : List Ev} (h : Sl w (.slice ao es.length c) es.length 5 (es.flatMap Ev.spec)) (hk : kn ≤ es.length) (hc : c = kn) :
    Sl w (.slice ao (es.length - kn) 0) (es.drop kn).length 5 ((es.drop kn).flatMap Ev.spec) := by
  have := sl_suf h hk
  rw [if_pos hc, show c - kn = 0 by omega] at this
  exact this
theorem sl_suf2 {w : World} {ao : Option Addr} {c kn : Nat} {es : List Ev} (h : Sl w (.slice ao es.length c) es.length 5 (es.flatMap Ev.spec)) (hk : kn ≤ es.length) (hc : c ≠ kn) :
    Sl w (.slice (ao.map (·.add (kn * 5))) (es.length - kn) (c - kn)) (es.drop kn).length 5 ((es.drop kn).flatMap Ev.spec) := by
  have := sl_suf h hk
  rw [if_neg hc] at this
  exact this
theorem below_drewN {B : Nat} {x y : World} (h : Below B x y) (n : Nat) : Below B x (y.drewN n) := ⟨h.os, h.tape, h.output, h.size, h.block⟩
theorem getD_take (es : List Ev) (kn i : Nat) (hi : i < kn) : (es.take kn).getD i noEv = es.getD i noEv := by
  rw [List.getD_eq_getElem?_getD, List.getD_eq_getElem?_getD, List.getElem?_take, if_pos hi]
theorem getD_drop (es : List Ev) (kn j : Nat) : (es.drop kn).getD j noEv = es.getD (kn + j) noEv := by
  rw [List.getD_eq_getElem?_getD, List.getD_eq_getElem?_getD, List.getElem?_drop]
theorem entAt_take (es : List Ev) (kn i : Nat) (hi : i < kn) : entAt (es.take kn) i = entAt es i := by
  unfold entAt durAt
  rw [getD_take es kn i hi]
  split
  · rfl
  · rw [getD_take es kn (i - 1) (by omega)]
theorem durAt_drop (es : List Ev) (kn j : Nat) (hj : j ≠ 0) : durAt (es.drop kn) j = durAt es (kn + j) := by
  unfold durAt
  rw [if_neg hj, if_neg (by omega), getD_drop, getD_drop, show kn + (j - 1) = kn + j - 1 by omega]
theorem lastAt_drop (es : List Ev) (kn : Nat) (ca : Int) (h : kn < es.length) : lastAt (es.drop kn) ca = lastAt es ca := by
  unfold lastAt
  rw [List.length_drop, if_neg (by omega), if_neg (by omega), getD_drop, show kn + (es.length - kn - 1) = es.length - 1 by omega]

set_option maxRecDepth 20000 in
set_option maxHeartbeats 16000000 in
theorem split_any (a : Ap) (us : List ByteArray) (v : Value) (es : List Ev) (kk : Int) (w : World) (hf : a.fits) (hfit : ∀ e ∈ es, e.fits) (hel : a.el = us.length) (hu : Sl w (.slice a.ea a.el a.ec) us.length 1 (strs us)) (h : Sl w v es.length 5 (es.flatMap Ev.spec)) :
    Calls Try.prog 4 #[.agg a.cells.toArray, v, .int .i64 kk] w fun e w' => e = .returned (.bool true) ∧ Below w.heap.size w w' := by
  obtain ⟨ao, c, rfl⟩ := h.shape
  have HEL := Lib.hid hel
  clear hel
  unfold Ap.cells
  go_enter Try.func4, Try.ntmps4
  go_upto_region 1 with fail
  obtain ⟨W1, hW1⟩ : ∃ W, W = w.alloc (.cells (Ap.cells a).toArray 25) := ⟨_, rfl⟩
  have r1 : Row W1 w.heap.size 25 (Ap.cells a) := by rw [hW1]; exact Row.new w 25 (Ap.cells a)
  have b1 : Below w.heap.size w W1 := by rw [hW1]; exact (Below.refl _ _).alloc (Nat.le_refl _) _
  unfold Ap.cells at hW1
  rw [← hW1]
  clear hW1
  have hs := h.on b1
  have hus := hu.on b1
  clear hu h
  go_cut [0, 23] from 19 to 23 (fun _ p wc => ∃ q, p = .bool (!q) ∧ (q = true → us.length ≤ 1048576 ∧ es.length ≤ 1048576) ∧ Below W1.heap.size W1 wc)
  case first =>
    go_wp2_with (refine wpList_load_row rfl 25 _ rfl w.heap.size rfl 25 _ (0, 0) _ r1 Try.underlying25 rfl Try.size25 ?_)
    refine (bytes_split a us _ es kk W1 HEL.out hus hs).mono ?_
    rintro x wx ⟨q, rfl, hq⟩
    go_wp2_with fail
    go_meet
    exact ⟨q, rfl, hq⟩
  case rest =>
    obtain ⟨q, rfl, hq, bq⟩ := hcut
    obtain ⟨w2, hw2⟩ : ∃ V, V = wc := ⟨_, rfl⟩
    subst hw2
    cases q
    case false =>
      go_wp2
      go_ret
      exact ⟨rfl, b1.trans (bq.mono b1.size)⟩
    case true =>
      obtain ⟨hul, hl⟩ := hq rfl
      clear hq
      have r1 := r1.below bq r1.lt
      have hs := hs.on bq
      have b1 := b1.trans (bq.mono b1.size)
      have hus := hus.on bq
      clear bq
      go_upto_region 3 with fail
      go_cut [27] from 24 to 27 (fun p wc => ∃ q, p = .bool (!q) ∧ Below w2.heap.size w2 wc)
      case first =>
        go_wp2_with (refine wpList_load_row rfl 25 _ rfl w.heap.size rfl 25 _ (0, 0) _ r1 Try.underlying25 rfl Try.size25 ?_)
        refine (sizeOK_any a us _ es w2 hl HEL.out hul hus hs).mono ?_
        rintro x wx ⟨q, rfl, hq⟩
        go_wp2_with fail
        go_meet
        exact ⟨q, rfl, hq⟩
      case rest =>
        obtain ⟨q, rfl, bq⟩ := hcut
        obtain ⟨w3, hw3⟩ : ∃ V, V = wc := ⟨_, rfl⟩
        subst hw3
        cases q
        case false =>
          go_wp2
          go_ret
          exact ⟨rfl, b1.trans (bq.mono b1.size)⟩
        case true =>
          have r1 := r1.below bq r1.lt
          have hs := hs.on bq
          have b1 := b1.trans (bq.mono b1.size)
          clear hus
          clear bq
          by_cases hk0 : kk < 0
          case pos =>
            go_wp2
            go_ret
            exact ⟨rfl, b1⟩
          case neg =>
            obtain ⟨kn, rfl⟩ : ∃ kn : Nat, kk = (kn : Int) := ⟨kk.toNat, by omega⟩
            by_cases hk1 : es.length < kn
            case pos =>
              have hd0 : decide ((kn : Int) < 0) = false := decide_eq_false (by omega)
              have hd1 : decide (es.length < kn) = true := decide_eq_true hk1
              go_wp2
              go_ret
              exact ⟨rfl, b1⟩
            case neg =>
              have hkn : kn ≤ es.length := by omega
              have hd0 : decide ((kn : Int) < 0) = false := decide_eq_false (by omega)
              have hd1 : decide (es.length < kn) = false := decide_eq_false hk1
              clear hk0 hk1
              go_upto_region 7 with fail
              go_cut [39] from 28 to 39 (fun p wc => ∃ q, p = .bool (!q) ∧ (q = true → timesOK a es) ∧ Below w3.heap.size w3 wc)
              case first =>
                go_wp2_with (refine wpList_load_row rfl 25 _ rfl w.heap.size rfl 25 _ (0, 0) _ r1 Try.underlying25 rfl Try.size25 ?_)
                refine (timesOK_any a _ es w3 hl hs).mono ?_
                rintro x wx ⟨q, rfl, hq⟩
                go_wp2_with fail
                go_meet
                exact ⟨q, rfl, hq⟩
              case rest =>
                obtain ⟨q, rfl, hq, bq⟩ := hcut
                obtain ⟨w4, hw4⟩ : ∃ V, V = wc := ⟨_, rfl⟩
                subst hw4
                cases q
                case false =>
                  go_wp2
                  go_ret
                  exact ⟨rfl, b1.trans (bq.mono b1.size)⟩
                case true =>
                  have HT := Lib.hid (hq rfl)
                  clear hq hd0 hd1
                  have r1 := r1.below bq r1.lt
                  have hs := hs.on bq
                  have b1 := b1.trans (bq.mono b1.size)
                  clear bq
                  go_upto_region 9 with fail
                  go_cut [7] from 40 to 41 (fun p wc => ∃ g dp ap, p = .pointer (some ⟨g, 0, none⟩) ∧ w4.heap.size ≤ g ∧ Row wc g 38 (a.real dp ap) ∧ DecAt w4.heap.size wc a dp ∧ Below w4.heap.size w4 wc)
                  case first =>
                    go_wp2_with (refine wpList_load_row rfl 25 _ rfl w.heap.size rfl 25 _ (0, 0) _ r1 Try.underlying25 rfl Try.size25 ?_)
                    refine (appeal_one a w4 hf).mono ?_
                    rintro x w5 ⟨dp, ap, rfl, hdec, bq⟩
                    go_wp2_with (refine wpList_store_row rfl 38 _ _ rfl w5.heap.size rfl 38 zero38 (a.real dp ap) (Row.new w5 38 zero38) rfl rfl Try.size38 rfl ?_; intro w6 R6 hb6 _)
                    go_meet
                    have bA : Below w5.heap.size w5 w6 := hb6 _ _ (Nat.le_refl _) ((Below.refl _ _).alloc (Nat.le_refl _) _)
                    exact ⟨_, dp, ap, rfl, bq.size, R6, hdec.on bA, bq.trans (bA.mono bq.size)⟩
                  case rest =>
                    obtain ⟨g, dp, ap, rfl, hg4, r6, hdec, bq⟩ := hcut
                    obtain ⟨w5, hw5⟩ : ∃ V, V = wc := ⟨_, rfl⟩
                    subst hw5
                    have hl2 : (es.take kn).length = kn := by rw [List.length_take]; omega
                    obtain ⟨m, hm⟩ : ∃ m, m = es.length - kn := ⟨_, rfl⟩
                    have hl3 : (es.drop kn).length = m := by rw [hm]; exact List.length_drop
                    have HM := Lib.hid (show es.length = kn + m by omega)
                    have HL2 := Lib.hid hl2
                    have HL3 := Lib.hid hl3
                    clear hl2 hl3 hm
                    have r1 := r1.below bq r1.lt
                    have hs := hs.on bq
                    have b1 := b1.trans (bq.mono b1.size)
                    clear bq
                    go_upto_region 10 with fail
                    go_cut [1, 8] from 42 to 43 (fun p1 p wc => p1 = .slice ao es.length c ∧ ∃ ge, p = .slice (some ⟨ge, 0, none⟩) es.length es.length ∧ Row wc ge 52 ((es).flatMap Ev.real) ∧ Below w5.heap.size w5 wc)
                    case first =>
                      go_wp2_with fail
                      refine (events_any _ es w5 hl hfit hs).mono ?_
                      rintro x wx ⟨ge, rfl, _, hge, bq⟩
                      go_wp2_with fail
                      go_meet
                      exact ⟨by first | rfl | (rw [show c = kn by omega]), ge, rfl, hge, bq⟩
                    case rest =>
                      obtain ⟨rfl, ge1, rfl, hge1, bq⟩ := hcut
                      obtain ⟨w6, hw6⟩ : ∃ V, V = wc := ⟨_, rfl⟩
                      subst hw6
                      have r1 := r1.below bq r1.lt
                      have hs := hs.on bq
                      have b1 := b1.trans (bq.mono b1.size)
                      have r6 := r6.below bq r6.lt
                      have hdec := hdec.on bq
                      clear bq
                      go_upto_region 11 with fail
                      go_cut [1, 9] from 44 to 47 (fun p1 p wc => p1 = .slice ao es.length c ∧ ∃ ge, p = .slice (some ⟨ge, 0, none⟩) kn kn ∧ Row wc ge 52 ((es.take kn).flatMap Ev.real) ∧ Below w6.heap.size w6 wc)
                      case first =>
                        have hsc : es.length ≤ c := by
                          rcases hs with ⟨h1, h2, _⟩ | ⟨_, _, h1, h2, _⟩
                          · omega
                          · cases h1; exact h2
                        have hkc : (kn : Int) ≤ (c : Int) := by omega
                        have hk0 : (0 : Int) ≤ (kn : Int) := by omega
                        go_wp2_with fail
                        refine (events_any _ (es.take kn) w6 (by rw [HL2.out]; omega) (fun e he => hfit e (List.mem_of_mem_take he)) (sl_pre hs hkn)).mono ?_
                        rintro x wx ⟨ge, rfl, _, hge, bq⟩
                        rw [HL2.out]
                        go_wp2_with fail
                        go_meet
                        exact ⟨by first | rfl | (rw [show c = kn by omega]), ge, rfl, hge, bq⟩
                      case rest =>
                        obtain ⟨rfl, ge2, rfl, hge2, bq⟩ := hcut
                        obtain ⟨w7, hw7⟩ : ∃ V, V = wc := ⟨_, rfl⟩
                        subst hw7
                        have r1 := r1.below bq r1.lt
                        have hs := hs.on bq
                        have b1 := b1.trans (bq.mono b1.size)
                        have r6 := r6.below bq r6.lt
                        have hdec := hdec.on bq
                        have hge1 := hge1.below bq hge1.lt
                        clear bq
                        go_upto_region 12 with fail
                        go_cut [1, 10] from 48 to 51 (fun p1 p wc => p1 = .slice ao es.length c ∧ ∃ ge, p = .slice (some ⟨ge, 0, none⟩) m m ∧ Row wc ge 52 ((es.drop kn).flatMap Ev.real) ∧ Below w7.heap.size w7 wc)
                        case first =>
                          have hsc : es.length ≤ c := by
                            rcases hs with ⟨h1, h2, _⟩ | ⟨_, _, h1, h2, _⟩
                            · omega
                            · cases h1; exact h2
                          have hkc : (kn : Int) ≤ (es.length : Int) := by omega
                          have hk0 : (0 : Int) ≤ (kn : Int) := by omega
                          have hml : (es.drop kn).length ≤ 1048576 := by rw [List.length_drop]; omega
                          go_wp2_with fail
                          · refine (events_any _ (es.drop kn) w7 hml (fun e he => hfit e (List.mem_of_mem_drop he)) (sl_suf1 hs hkn (by omega))).mono ?_
                            rintro x wx ⟨ge, rfl, _, hge, bq⟩
                            rw [HL3.out]
                            go_wp2_with fail
                            go_meet
                            exact ⟨by first | rfl | (rw [show c = kn by omega]), ge, rfl, hge, bq⟩
                          · refine (events_any _ (es.drop kn) w7 hml (fun e he => hfit e (List.mem_of_mem_drop he)) (sl_suf2 hs hkn (by omega))).mono ?_
                            rintro x wx ⟨ge, rfl, _, hge, bq⟩
                            rw [HL3.out]
                            go_wp2_with fail
                            go_meet
                            exact ⟨by first | rfl | (rw [show c = kn by omega]), ge, rfl, hge, bq⟩
                        case rest =>
                          obtain ⟨rfl, ge3, rfl, hge3, bq⟩ := hcut
                          obtain ⟨w8, hw8⟩ : ∃ V, V = wc := ⟨_, rfl⟩
                          subst hw8
                          have r1 := r1.below bq r1.lt
                          have hs := hs.on bq
                          have b1 := b1.trans (bq.mono b1.size)
                          have r6 := r6.below bq r6.lt
                          have hdec := hdec.on bq
                          have hge1 := hge1.below bq hge1.lt
                          have hge2 := hge2.below bq hge2.lt
                          clear bq
                          have hca := (okT_iff _).1 HT.out.1
                          have htm1 : ∀ e ∈ es, -2305843009213693952 ≤ e.at_ ∧ e.at_ ≤ 2305843009213693952 := fun e he => (okT_iff _).1 (HT.out.2.2 e he)
                          have hda : dp ≠ none → -2305843009213693952 ≤ a.da ∧ a.da ≤ 2305843009213693952 := by
                            intro hn
                            rcases hdec with ⟨_, e⟩ | ⟨hd, d, _, e, h6, h7, h8⟩
                            · exact absurd e hn
                            · exact (okT_iff _).1 (HT.out.2.1 hd)
                          have HCA := Lib.hid hca
                          have HTM := Lib.hid htm1
                          have HDA := Lib.hid hda
                          clear hca htm1 hda
                          obtain ⟨c0, hc0⟩ : ∃ x, x = a.ca % 1000000000 := ⟨_, rfl⟩
                          obtain ⟨c1, hc1⟩ : ∃ x, x = a.ca / 1000000000 := ⟨_, rfl⟩
                          obtain ⟨x0, hx0⟩ : ∃ x, x = a.xa % 1000000000 := ⟨_, rfl⟩
                          obtain ⟨x1, hx1⟩ : ∃ x, x = a.xa / 1000000000 := ⟨_, rfl⟩
                          have r6 : Row w8 g 38 (apL a.id a.sid a.uid a.st a.pr a.rsn a.stm a.ea a.el a.ec c0 c1 x0 x1 dp ap) := by rw [hc0, hc1, hx0, hx1]; exact r6
                          have HC0 := Lib.hid hc0
                          have HC1 := Lib.hid hc1
                          clear hc0 hc1 hx0 hx1
                          go_upto_region 13 with fail
                          go_cut [11] from 52 to 54 (fun p wc => ∃ gt v rp, p = .pointer (some ⟨gt, 0, none⟩) ∧ Row wc gt 45 (tlL a.id a.uid a.st c0 c1 (lastAt (es) a.ca % 1000000000) (lastAt (es) a.ca / 1000000000) rp v) ∧ Sl wc v es.length 8 (ents (es) es.length) ∧ ResAt wc dp (hund ((a.da - a.ca).tdiv 864000000000)) rp ∧ Below w8.heap.size w8 wc)
                          case first =>
                            have hd' : dp = none ∨ ∃ d, dp = some ⟨d, 0, none⟩ ∧ w8.cell? ⟨d, 6, none⟩ = some (.int .u64 (a.da % 1000000000)) ∧ w8.cell? ⟨d, 7, none⟩ = some (.int .i64 (a.da / 1000000000)) ∧ w8.cell? ⟨d, 8, none⟩ = some (.pointer none) ∧ -2305843009213693952 ≤ a.da ∧ a.da ≤ 2305843009213693952 := by
                              rcases hdec with ⟨_, e⟩ | ⟨hd, d, _, e, h6, h7, h8⟩
                              · exact .inl e
                              · exact .inr ⟨d, e, h6, h7, h8, HDA.out (by rw [e]; simp)⟩
                            have htl := timeline_one a.id a.sid a.uid a.st a.pr a.rsn a.stm a.ea a.el a.ec c0 c1 x0 x1 dp ap ge1 (es) w8 a.ca a.da HC0.out HC1.out HCA.out hd' (by have := HM.out; omega) (fun e he => HTM.out e he) hge1
                            clear hd' hdec hs
                            go_wp2_with (refine wpList_load_row rfl 38 _ rfl g rfl 38 _ (0, 0) _ r6 Try.underlying38 rfl Try.size38 ?_)
                            refine htl.mono ?_
                            rintro x wx ⟨v, rp, rfl, hsl, hres, bq⟩
                            rw [← HC0.out, ← HC1.out]
                            obtain ⟨va, vc, rfl⟩ := hsl.shape
                            go_wp2_with (refine wpList_store_row rfl 45 _ _ rfl wx.heap.size rfl 45 zero45 (tlL a.id a.uid a.st c0 c1 (lastAt (es) a.ca % 1000000000) (lastAt (es) a.ca / 1000000000) rp (.slice va es.length vc)) (Row.new wx 45 zero45) rfl rfl Try.size45 rfl ?_; intro w' R' hb _)
                            go_meet
                            have bA : Below wx.heap.size wx w' := hb _ _ (Nat.le_refl _) ((Below.refl _ _).alloc (Nat.le_refl _) _)
                            exact ⟨_, _, rp, rfl, R', hsl.on bA, hres.on bA, bq.trans (bA.mono bq.size)⟩
                          case rest =>
                            obtain ⟨gt1, v1, rp1, rfl, r7, hsl1, hres1, bq⟩ := hcut
                            obtain ⟨w9, hw9⟩ : ∃ V, V = wc := ⟨_, rfl⟩
                            subst hw9
                            have r1 := r1.below bq r1.lt
                            have hs := hs.on bq
                            have b1 := b1.trans (bq.mono b1.size)
                            have r6 := r6.below bq r6.lt
                            have hdec := hdec.on bq
                            have hge2 := hge2.below bq hge2.lt
                            have hge3 := hge3.below bq hge3.lt
                            clear hge1
                            clear bq
                            go_upto_region 14 with fail
                            go_cut [12] from 55 to 57 (fun p wc => ∃ gt v rp, p = .pointer (some ⟨gt, 0, none⟩) ∧ Row wc gt 45 (tlL a.id a.uid a.st c0 c1 (lastAt (es.take kn) a.ca % 1000000000) (lastAt (es.take kn) a.ca / 1000000000) rp v) ∧ Sl wc v kn 8 (ents (es.take kn) kn) ∧ ResAt wc dp (hund ((a.da - a.ca).tdiv 864000000000)) rp ∧ Below w9.heap.size w9 wc)
                            case first =>
                              have hd' : dp = none ∨ ∃ d, dp = some ⟨d, 0, none⟩ ∧ w9.cell? ⟨d, 6, none⟩ = some (.int .u64 (a.da % 1000000000)) ∧ w9.cell? ⟨d, 7, none⟩ = some (.int .i64 (a.da / 1000000000)) ∧ w9.cell? ⟨d, 8, none⟩ = some (.pointer none) ∧ -2305843009213693952 ≤ a.da ∧ a.da ≤ 2305843009213693952 := by
                                rcases hdec with ⟨_, e⟩ | ⟨hd, d, _, e, h6, h7, h8⟩
                                · exact .inl e
                                · exact .inr ⟨d, e, h6, h7, h8, HDA.out (by rw [e]; simp)⟩
                              have htl := timeline_one a.id a.sid a.uid a.st a.pr a.rsn a.stm a.ea a.el a.ec c0 c1 x0 x1 dp ap ge2 (es.take kn) w9 a.ca a.da HC0.out HC1.out HCA.out hd' (by have := HM.out; rw [HL2.out]; omega) (fun e he => HTM.out e (List.mem_of_mem_take he)) hge2
                              rw [HL2.out] at htl
                              clear hd' hdec hs
                              go_wp2_with (refine wpList_load_row rfl 38 _ rfl g rfl 38 _ (0, 0) _ r6 Try.underlying38 rfl Try.size38 ?_)
                              refine htl.mono ?_
                              rintro x wx ⟨v, rp, rfl, hsl, hres, bq⟩
                              rw [← HC0.out, ← HC1.out]
                              rw [HL2.out] at hsl
                              obtain ⟨va, vc, rfl⟩ := hsl.shape
                              go_wp2_with (refine wpList_store_row rfl 45 _ _ rfl wx.heap.size rfl 45 zero45 (tlL a.id a.uid a.st c0 c1 (lastAt (es.take kn) a.ca % 1000000000) (lastAt (es.take kn) a.ca / 1000000000) rp (.slice va kn vc)) (Row.new wx 45 zero45) rfl rfl Try.size45 rfl ?_; intro w' R' hb _)
                              go_meet
                              have bA : Below wx.heap.size wx w' := hb _ _ (Nat.le_refl _) ((Below.refl _ _).alloc (Nat.le_refl _) _)
                              exact ⟨_, _, rp, rfl, R', hsl.on bA, hres.on bA, bq.trans (bA.mono bq.size)⟩
                            case rest =>
                              obtain ⟨gt2, v2, rp2, rfl, r8, hsl2, hres2, bq⟩ := hcut
                              obtain ⟨w10, hw10⟩ : ∃ V, V = wc := ⟨_, rfl⟩
                              subst hw10
                              have r1 := r1.below bq r1.lt
                              have hs := hs.on bq
                              have b1 := b1.trans (bq.mono b1.size)
                              have r6 := r6.below bq r6.lt
                              have hdec := hdec.on bq
                              have hge3 := hge3.below bq hge3.lt
                              clear hge2
                              have r7 := r7.below bq r7.lt
                              have hsl1 := hsl1.on bq
                              have hres1 := hres1.on bq
                              clear bq
                              go_upto_region 15 with fail
                              go_cut [13] from 58 to 60 (fun p wc => ∃ gt v rp, p = .pointer (some ⟨gt, 0, none⟩) ∧ Row wc gt 45 (tlL a.id a.uid a.st c0 c1 (lastAt (es.drop kn) a.ca % 1000000000) (lastAt (es.drop kn) a.ca / 1000000000) rp v) ∧ Sl wc v m 8 (ents (es.drop kn) m) ∧ ResAt wc dp (hund ((a.da - a.ca).tdiv 864000000000)) rp ∧ Below w10.heap.size w10 wc)
                              case first =>
                                have hd' : dp = none ∨ ∃ d, dp = some ⟨d, 0, none⟩ ∧ w10.cell? ⟨d, 6, none⟩ = some (.int .u64 (a.da % 1000000000)) ∧ w10.cell? ⟨d, 7, none⟩ = some (.int .i64 (a.da / 1000000000)) ∧ w10.cell? ⟨d, 8, none⟩ = some (.pointer none) ∧ -2305843009213693952 ≤ a.da ∧ a.da ≤ 2305843009213693952 := by
                                  rcases hdec with ⟨_, e⟩ | ⟨hd, d, _, e, h6, h7, h8⟩
                                  · exact .inl e
                                  · exact .inr ⟨d, e, h6, h7, h8, HDA.out (by rw [e]; simp)⟩
                                have htl := timeline_one a.id a.sid a.uid a.st a.pr a.rsn a.stm a.ea a.el a.ec c0 c1 x0 x1 dp ap ge3 (es.drop kn) w10 a.ca a.da HC0.out HC1.out HCA.out hd' (by have := HM.out; rw [HL3.out]; omega) (fun e he => HTM.out e (List.mem_of_mem_drop he)) hge3
                                rw [HL3.out] at htl
                                clear hd' hdec hs
                                go_wp2_with (refine wpList_load_row rfl 38 _ rfl g rfl 38 _ (0, 0) _ r6 Try.underlying38 rfl Try.size38 ?_)
                                refine htl.mono ?_
                                rintro x wx ⟨v, rp, rfl, hsl, hres, bq⟩
                                rw [← HC0.out, ← HC1.out]
                                rw [HL3.out] at hsl
                                obtain ⟨va, vc, rfl⟩ := hsl.shape
                                go_wp2_with (refine wpList_store_row rfl 45 _ _ rfl wx.heap.size rfl 45 zero45 (tlL a.id a.uid a.st c0 c1 (lastAt (es.drop kn) a.ca % 1000000000) (lastAt (es.drop kn) a.ca / 1000000000) rp (.slice va m vc)) (Row.new wx 45 zero45) rfl rfl Try.size45 rfl ?_; intro w' R' hb _)
                                go_meet
                                have bA : Below wx.heap.size wx w' := hb _ _ (Nat.le_refl _) ((Below.refl _ _).alloc (Nat.le_refl _) _)
                                exact ⟨_, _, rp, rfl, R', hsl.on bA, hres.on bA, bq.trans (bA.mono bq.size)⟩
                              case rest =>
                                obtain ⟨gt3, v3, rp3, rfl, r9, hsl3, hres3, bq⟩ := hcut
                                obtain ⟨w11, hw11⟩ : ∃ V, V = wc := ⟨_, rfl⟩
                                subst hw11
                                have r1 := r1.below bq r1.lt
                                have hs := hs.on bq
                                have b1 := b1.trans (bq.mono b1.size)
                                clear hge3 r6 hdec
                                have r7 := r7.below bq r7.lt
                                have hsl1 := hsl1.on bq
                                have hres1 := hres1.on bq
                                have r8 := r8.below bq r8.lt
                                have hsl2 := hsl2.on bq
                                have hres2 := hres2.on bq
                                clear bq
                                obtain ⟨fl, hfl⟩ : ∃ x, x = hund ((a.da - a.ca).tdiv 864000000000) := ⟨_, rfl⟩
                                have HFE := Lib.hid (show FloatKind.f64.format.order fl fl = some .eq by rw [hfl]; exact order_of (hund_eq _))
                                rw [← hfl] at hres1 hres2 hres3
                                obtain ⟨va1, vc1, rfl⟩ := hsl1.shape
                                obtain ⟨va2, vc2, rfl⟩ := hsl2.shape
                                obtain ⟨va3, vc3, rfl⟩ := hsl3.shape
                                obtain ⟨p0, hp0⟩ : ∃ x, x = lastAt es a.ca % 1000000000 := ⟨_, rfl⟩
                                obtain ⟨p1, hp1⟩ : ∃ x, x = lastAt es a.ca / 1000000000 := ⟨_, rfl⟩
                                obtain ⟨q0, hq0⟩ : ∃ x, x = lastAt (es.take kn) a.ca % 1000000000 := ⟨_, rfl⟩
                                obtain ⟨q1, hq1⟩ : ∃ x, x = lastAt (es.take kn) a.ca / 1000000000 := ⟨_, rfl⟩
                                obtain ⟨s0, hs0⟩ : ∃ x, x = lastAt (es.drop kn) a.ca % 1000000000 := ⟨_, rfl⟩
                                obtain ⟨s1, hs1⟩ : ∃ x, x = lastAt (es.drop kn) a.ca / 1000000000 := ⟨_, rfl⟩
                                rw [← hp0, ← hp1] at r7
                                rw [← hq0, ← hq1] at r8
                                rw [← hs0, ← hs1] at r9
                                have HPS := Lib.hid (show kn < es.length → s0 = p0 ∧ s1 = p1 by intro hlt; rw [hs0, hs1, hp0, hp1, lastAt_drop es kn a.ca hlt]; exact ⟨rfl, rfl⟩)
                                have HPQ := Lib.hid (show ¬ kn < es.length → q0 = p0 ∧ q1 = p1 by intro hlt; rw [hq0, hq1, hp0, hp1, List.take_of_length_le (by omega)]; exact ⟨rfl, rfl⟩)
                                have hrs : (rp1 = none ∧ rp2 = none ∧ rp3 = none) ∨ ∃ z1 z2 z3, rp1 = some ⟨z1, 0, none⟩ ∧ rp2 = some ⟨z2, 0, none⟩ ∧ rp3 = some ⟨z3, 0, none⟩ ∧ w11.cell? ⟨z1, 0, none⟩ = some (.float .f64 fl) ∧ w11.cell? ⟨z2, 0, none⟩ = some (.float .f64 fl) ∧ w11.cell? ⟨z3, 0, none⟩ = some (.float .f64 fl) := by
                                  rcases hres1 with ⟨n1, e1⟩ | ⟨n1, z1, e1, y1⟩
                                  · rcases hres2 with ⟨n2, e2⟩ | ⟨n2, z2, e2, y2⟩
                                    · rcases hres3 with ⟨n3, e3⟩ | ⟨n3, z3, e3, y3⟩
                                      · exact .inl ⟨e1, e2, e3⟩
                                      · exact absurd n1 n3
                                    · exact absurd n1 n2
                                  · rcases hres2 with ⟨n2, e2⟩ | ⟨n2, z2, e2, y2⟩
                                    · exact absurd n2 n1
                                    · rcases hres3 with ⟨n3, e3⟩ | ⟨n3, z3, e3, y3⟩
                                      · exact absurd n3 n1
                                      · exact .inr ⟨z1, z2, z3, e1, e2, e3, y1, y2, y3⟩
                                have HRS := Lib.hid hrs
                                clear hfl hp0 hp1 hq0 hq1 hs0 hs1 hres1 hres2 hres3 hrs
                                have t0 := r7.cell (j := 0) rfl
                                have t1 := r8.cell (j := 0) rfl
                                have t2 := r9.cell (j := 0) rfl
                                have e0 := r1.cell (j := 0) rfl
                                go_upto_region 18 with fail
                                clear t0 t1 t2 e0
                                have t0 := r7.cell (j := 1) rfl
                                have t1 := r8.cell (j := 1) rfl
                                have t2 := r9.cell (j := 1) rfl
                                have t3 := r7.cell (j := 2) rfl
                                have t4 := r8.cell (j := 2) rfl
                                have t5 := r9.cell (j := 2) rfl
                                go_upto_region 20 with fail
                                clear t0 t1 t2 t3 t4 t5
                                go_cut [121] from 61 to 121 (fun p wc => p = .bool false ∧ w11 = wc)
                                case first =>
                                  have t0 := r7.cell (j := 9) rfl
                                  have t1 := r8.cell (j := 9) rfl
                                  have t2 := r9.cell (j := 9) rfl
                                  rcases HRS.out with ⟨h1, h2, h3⟩ | ⟨z1, z2, z3, h1, h2, h3, _⟩
                                  · subst h1 h2 h3
                                    go_wp2
                                    go_meet
                                    exact ⟨rfl, rfl⟩
                                  · subst h1 h2 h3
                                    go_wp2
                                    go_meet
                                    exact ⟨rfl, rfl⟩
                                case rest =>
                                  obtain ⟨rfl, rfl⟩ := hcut
                                  go_upto_region 22 with fail
                                  go_cut [146] from 122 to 146 (fun p wc => p = .bool false ∧ Below w11.heap.size w11 wc)
                                  case first =>
                                    have t0 := r7.cell (j := 9) rfl
                                    have t1 := r8.cell (j := 9) rfl
                                    have t2 := r9.cell (j := 9) rfl
                                    have hfe := HFE.out
                                    rcases HRS.out with ⟨h1, h2, h3⟩ | ⟨z1, z2, z3, h1, h2, h3, y1, y2, y3⟩
                                    · subst h1 h2 h3
                                      go_quiet (fail)
                                      go_wp2
                                      go_meet
                                      exact ⟨rfl, below_drewN (Below.refl _ _) _⟩
                                    · subst h1 h2 h3
                                      go_region_held3 (fun w' => w'.cell? ⟨gt1, 9, none⟩ = some (.pointer (some ⟨z1, 0, none⟩)) ∧ w'.cell? ⟨gt2, 9, none⟩ = some (.pointer (some ⟨z2, 0, none⟩)) ∧ w'.cell? ⟨gt3, 9, none⟩ = some (.pointer (some ⟨z3, 0, none⟩)) ∧ w'.cell? ⟨z1, 0, none⟩ = some (.float .f64 fl) ∧ w'.cell? ⟨z2, 0, none⟩ = some (.float .f64 fl) ∧ w'.cell? ⟨z3, 0, none⟩ = some (.float .f64 fl)) (first | (refine ⟨?_, ?_, ?_, ?_, ?_, ?_⟩ <;> with_reducible assumption) | (simp [*, go_sem]; done) | go_keep) (fail)
                                      go_wp2
                                      go_meet
                                      exact ⟨rfl, (Below.refl _ _).drew⟩
                                  case rest =>
                                    obtain ⟨rfl, bq⟩ := hcut
                                    obtain ⟨w12, hw12⟩ : ∃ V, V = wc := ⟨_, rfl⟩
                                    subst hw12
                                    have r1 := r1.below bq r1.lt
                                    have hs := hs.on bq
                                    have b1 := b1.trans (bq.mono b1.size)
                                    clear HRS HFE
                                    have r7 := r7.below bq r7.lt
                                    have hsl1 := hsl1.on bq
                                    have r8 := r8.below bq r8.lt
                                    have hsl2 := hsl2.on bq
                                    have r9 := r9.below bq r9.lt
                                    have hsl3 := hsl3.on bq
                                    clear bq
                                    have t0 := r7.cell (j := 10) rfl
                                    have t1 := r8.cell (j := 10) rfl
                                    have t2 := r9.cell (j := 10) rfl
                                    have hem : (es.length : Int) - (kn : Int) = (m : Int) := by have := HM.out; omega
                                    have hwm : IntKind.i64.wrap (m : Int) = (m : Int) := by have := HM.out; rw [IntKind.wrap_i64]; omega
                                    go_wp2
                                    clear t0 t1 t2 hem hwm
                                    go_loopw [14] (fun i wr => ∃ k : Nat, k ≤ kn ∧ i = .int .i64 k ∧ Below w12.heap.size w12 wr) (fun i _ => kn - (intOf i).toNat)
                                    case atStart => exact ⟨0, Nat.zero_le _, rfl, Below.refl _ _⟩
                                    case round =>
                                      obtain ⟨k, hk, rfl, bw⟩ := hrel
                                      by_cases hlt : k < kn
                                      · have hlt' : k < es.length := by omega
                                        obtain ⟨e, he⟩ : ∃ e, es[k]? = some e := ⟨_, List.getElem?_eq_getElem hlt'⟩
                                        obtain ⟨dk, hdk⟩ : ∃ x, x = durAt es k := ⟨_, rfl⟩
                                        obtain ⟨en, es1, em, et, eu⟩ := e
                                        obtain ⟨x0, hx0⟩ : ∃ x, x = em % 1000000000 := ⟨_, rfl⟩
                                        obtain ⟨x1, hx1⟩ : ∃ x, x = em / 1000000000 := ⟨_, rfl⟩
                                        have hen : entAt es k = [.int .i64 en, .string es1, .int .u64 x0, .int .i64 x1, .pointer none, .string et, .string eu, .float .f64 dk] := by
                                          unfold entAt; rw [List.getD_eq_getElem?_getD, he, hx0, hx1, hdk]; rfl
                                        have hen2 := entAt_take es kn k hlt
                                        rw [hen] at hen2
                                        obtain ⟨v1b, v1o, v1c, e1, _, _, hc1⟩ := (hsl1.on bw).at (by rw [ents_len]; omega)
                                        cases e1
                                        obtain ⟨v2b, v2o, v2c, e2, _, _, hc2⟩ := (hsl2.on bw).at (by rw [ents_len]; omega)
                                        cases e2
                                        have hq1 := fun i (hi : i < 8) => ents_at es es.length k i hlt' hi
                                        rw [hen] at hq1
                                        have hq2 := fun i (hi : i < 8) => ents_at (es.take kn) kn k i hlt hi
                                        rw [hen2] at hq2
                                        have d0 : wr.cell? ⟨v1b, v1o + k * 8, none⟩ = some (.int .i64 en) := hc1 _ _ (hq1 0 (by omega))
                                        have d1 : wr.cell? ⟨v1b, v1o + k * 8 + 1, none⟩ = some (.string es1) := hc1 _ _ (hq1 1 (by omega))
                                        have d2 : wr.cell? ⟨v1b, v1o + k * 8 + 2, none⟩ = some (.int .u64 x0) := hc1 _ _ (hq1 2 (by omega))
                                        have d3 : wr.cell? ⟨v1b, v1o + k * 8 + 3, none⟩ = some (.int .i64 x1) := hc1 _ _ (hq1 3 (by omega))
                                        have d4 : wr.cell? ⟨v1b, v1o + k * 8 + 4, none⟩ = some (.pointer none) := hc1 _ _ (hq1 4 (by omega))
                                        have d5 : wr.cell? ⟨v1b, v1o + k * 8 + 5, none⟩ = some (.string et) := hc1 _ _ (hq1 5 (by omega))
                                        have d6 : wr.cell? ⟨v1b, v1o + k * 8 + 6, none⟩ = some (.string eu) := hc1 _ _ (hq1 6 (by omega))
                                        have d7 : wr.cell? ⟨v1b, v1o + k * 8 + 7, none⟩ = some (.float .f64 dk) := hc1 _ _ (hq1 7 (by omega))
                                        have f0 : wr.cell? ⟨v2b, v2o + k * 8, none⟩ = some (.int .i64 en) := hc2 _ _ (hq2 0 (by omega))
                                        have f1 : wr.cell? ⟨v2b, v2o + k * 8 + 1, none⟩ = some (.string es1) := hc2 _ _ (hq2 1 (by omega))
                                        have f2 : wr.cell? ⟨v2b, v2o + k * 8 + 2, none⟩ = some (.int .u64 x0) := hc2 _ _ (hq2 2 (by omega))
                                        have f3 : wr.cell? ⟨v2b, v2o + k * 8 + 3, none⟩ = some (.int .i64 x1) := hc2 _ _ (hq2 3 (by omega))
                                        have f4 : wr.cell? ⟨v2b, v2o + k * 8 + 4, none⟩ = some (.pointer none) := hc2 _ _ (hq2 4 (by omega))
                                        have f5 : wr.cell? ⟨v2b, v2o + k * 8 + 5, none⟩ = some (.string et) := hc2 _ _ (hq2 5 (by omega))
                                        have f6 : wr.cell? ⟨v2b, v2o + k * 8 + 6, none⟩ = some (.string eu) := hc2 _ _ (hq2 6 (by omega))
                                        have f7 : wr.cell? ⟨v2b, v2o + k * 8 + 7, none⟩ = some (.float .f64 dk) := hc2 _ _ (hq2 7 (by omega))
                                        have t0 := (r7.below bw r7.lt).cell (j := 10) rfl
                                        have t1 := (r8.below bw r8.lt).cell (j := 10) rfl
                                        have hi1 : (k : Int) < (es.length : Int) := by omega
                                        have hi2 : (k : Int) < (kn : Int) := by omega
                                        have hfe := dur_eq es k
                                        rw [← hdk] at hfe
                                        clear hq1 hq2 hc1 hc2 hen hen2 he hdk hx0 hx1
                                        go_upto_region 29 with fail
                                        go_cut [185] from 175 to 185 (fun p wc => p = .bool false ∧ Below wr.heap.size wr wc)
                                        case first =>
                                          go_region_held3 (fun w' => w'.cell? ⟨gt1, 10, none⟩ = some (.slice (some ⟨v1b, v1o, none⟩) es.length vc1) ∧ w'.cell? ⟨gt2, 10, none⟩ = some (.slice (some ⟨v2b, v2o, none⟩) kn vc2) ∧ w'.cell? ⟨v1b, v1o + k * 8, none⟩ = some (.int .i64 en) ∧ w'.cell? ⟨v1b, v1o + k * 8 + 1, none⟩ = some (.string es1) ∧ w'.cell? ⟨v1b, v1o + k * 8 + 2, none⟩ = some (.int .u64 x0) ∧ w'.cell? ⟨v1b, v1o + k * 8 + 3, none⟩ = some (.int .i64 x1) ∧ w'.cell? ⟨v1b, v1o + k * 8 + 4, none⟩ = some (.pointer none) ∧ w'.cell? ⟨v1b, v1o + k * 8 + 5, none⟩ = some (.string et) ∧ w'.cell? ⟨v1b, v1o + k * 8 + 6, none⟩ = some (.string eu) ∧ w'.cell? ⟨v1b, v1o + k * 8 + 7, none⟩ = some (.float .f64 dk) ∧ w'.cell? ⟨v2b, v2o + k * 8, none⟩ = some (.int .i64 en) ∧ w'.cell? ⟨v2b, v2o + k * 8 + 1, none⟩ = some (.string es1) ∧ w'.cell? ⟨v2b, v2o + k * 8 + 2, none⟩ = some (.int .u64 x0) ∧ w'.cell? ⟨v2b, v2o + k * 8 + 3, none⟩ = some (.int .i64 x1) ∧ w'.cell? ⟨v2b, v2o + k * 8 + 4, none⟩ = some (.pointer none) ∧ w'.cell? ⟨v2b, v2o + k * 8 + 5, none⟩ = some (.string et) ∧ w'.cell? ⟨v2b, v2o + k * 8 + 6, none⟩ = some (.string eu) ∧ w'.cell? ⟨v2b, v2o + k * 8 + 7, none⟩ = some (.float .f64 dk)) (first | (refine ⟨?_, ?_, ?_, ?_, ?_, ?_, ?_, ?_, ?_, ?_, ?_, ?_, ?_, ?_, ?_, ?_, ?_, ?_⟩ <;> with_reducible assumption) | (simp [*, go_sem]; done) | go_keep) (fail)
                                          go_wp2_with fail
                                          go_meet
                                          exact ⟨rfl, (Below.refl _ _).drew⟩
                                        case rest =>
                                          obtain ⟨rfl, bZ⟩ := hcut
                                          have bZ := bw.trans (bZ.mono bw.size)
                                          clear d0 d1 d2 d3 d4 d5 d6 d7 f0 f1 f2 f3 f4 f5 f6 f7 t0 t1
                                          go_wp2
                                          go_roundw
                                          case rel => exact ⟨k + 1, by omega, by go_num, bZ⟩
                                          case measure => simp [intOf]; omega
                                      · have hdk : decide (k < kn) = false := decide_eq_false hlt
                                        have r1 := r1.below bw r1.lt
                                        have hs := hs.on bw
                                        have b1 := b1.trans (bw.mono b1.size)
                                        have r7 := r7.below bw r7.lt
                                        have hsl1 := hsl1.on bw
                                        have r8 := r8.below bw r8.lt
                                        have r9 := r9.below bw r9.lt
                                        have hsl3 := hsl3.on bw
                                        go_wp2
                                        obtain ⟨wE, hwE⟩ : ∃ V, V = wr := ⟨_, rfl⟩
                                        subst hwE
                                        clear hlt hdk bw
                                        go_loopw [15] (fun i wr => ∃ j : Nat, j ≤ m ∧ i = .int .i64 j ∧ Below wE.heap.size wE wr) (fun i _ => m - (intOf i).toNat)
                                        case atStart => exact ⟨0, Nat.zero_le _, rfl, Below.refl _ _⟩
                                        case round =>
                                          obtain ⟨j, hj, rfl, bw⟩ := hrel
                                          have t2 := (r9.below bw r9.lt).cell (j := 10) rfl
                                          by_cases hlt : j < m
                                          · have hlt' : kn + j < es.length := by have := HM.out; omega
                                            obtain ⟨ii, hii⟩ : ∃ ii, ii = kn + j := ⟨_, rfl⟩
                                            have hlti : ii < es.length := by omega
                                            obtain ⟨e, he⟩ : ∃ e, es[ii]? = some e := ⟨_, List.getElem?_eq_getElem hlti⟩
                                            obtain ⟨dw, hdw⟩ : ∃ x, x = durAt es ii := ⟨_, rfl⟩
                                            obtain ⟨dx, hdx⟩ : ∃ x, x = durAt (es.drop kn) j := ⟨_, rfl⟩
                                            obtain ⟨en, es1, em, et, eu⟩ := e
                                            obtain ⟨x0, hx0⟩ : ∃ x, x = em % 1000000000 := ⟨_, rfl⟩
                                            obtain ⟨x1, hx1⟩ : ∃ x, x = em / 1000000000 := ⟨_, rfl⟩
                                            have hen : entAt es ii = [.int .i64 en, .string es1, .int .u64 x0, .int .i64 x1, .pointer none, .string et, .string eu, .float .f64 dw] := by
                                              unfold entAt; rw [List.getD_eq_getElem?_getD, he, hx0, hx1, hdw]; rfl
                                            have hen2 : entAt (es.drop kn) j = [.int .i64 en, .string es1, .int .u64 x0, .int .i64 x1, .pointer none, .string et, .string eu, .float .f64 dx] := by
                                              unfold entAt; rw [getD_drop, ← hii, List.getD_eq_getElem?_getD, he, hx0, hx1, hdx]; rfl
                                            obtain ⟨v1b, v1o, v1c, e1, _, hv1, hc1⟩ := (hsl1.on bw).at (by rw [ents_len]; omega)
                                            cases e1
                                            obtain ⟨v3b, v3o, v3c, e3, _, hv3, hc3⟩ := (hsl3.on bw).at (by rw [ents_len]; omega)
                                            cases e3
                                            have hq1 := fun i (hi : i < 8) => ents_at es es.length ii i hlti hi
                                            rw [hen] at hq1
                                            have hq3 := fun i (hi : i < 8) => ents_at (es.drop kn) m j i hlt hi
                                            rw [hen2] at hq3
                                            have d0 : wr.cell? ⟨v1b, v1o + ii * 8, none⟩ = some (.int .i64 en) := hc1 _ _ (hq1 0 (by omega))
                                            have d1 : wr.cell? ⟨v1b, v1o + ii * 8 + 1, none⟩ = some (.string es1) := hc1 _ _ (hq1 1 (by omega))
                                            have d2 : wr.cell? ⟨v1b, v1o + ii * 8 + 2, none⟩ = some (.int .u64 x0) := hc1 _ _ (hq1 2 (by omega))
                                            have d3 : wr.cell? ⟨v1b, v1o + ii * 8 + 3, none⟩ = some (.int .i64 x1) := hc1 _ _ (hq1 3 (by omega))
                                            have d4 : wr.cell? ⟨v1b, v1o + ii * 8 + 4, none⟩ = some (.pointer none) := hc1 _ _ (hq1 4 (by omega))
                                            have d5 : wr.cell? ⟨v1b, v1o + ii * 8 + 5, none⟩ = some (.string et) := hc1 _ _ (hq1 5 (by omega))
                                            have d6 : wr.cell? ⟨v1b, v1o + ii * 8 + 6, none⟩ = some (.string eu) := hc1 _ _ (hq1 6 (by omega))
                                            have d7 : wr.cell? ⟨v1b, v1o + ii * 8 + 7, none⟩ = some (.float .f64 dw) := hc1 _ _ (hq1 7 (by omega))
                                            have f0 : wr.cell? ⟨v3b, v3o + j * 8, none⟩ = some (.int .i64 en) := hc3 _ _ (hq3 0 (by omega))
                                            have f1 : wr.cell? ⟨v3b, v3o + j * 8 + 1, none⟩ = some (.string es1) := hc3 _ _ (hq3 1 (by omega))
                                            have f2 : wr.cell? ⟨v3b, v3o + j * 8 + 2, none⟩ = some (.int .u64 x0) := hc3 _ _ (hq3 2 (by omega))
                                            have f3 : wr.cell? ⟨v3b, v3o + j * 8 + 3, none⟩ = some (.int .i64 x1) := hc3 _ _ (hq3 3 (by omega))
                                            have f4 : wr.cell? ⟨v3b, v3o + j * 8 + 4, none⟩ = some (.pointer none) := hc3 _ _ (hq3 4 (by omega))
                                            have f5 : wr.cell? ⟨v3b, v3o + j * 8 + 5, none⟩ = some (.string et) := hc3 _ _ (hq3 5 (by omega))
                                            have f6 : wr.cell? ⟨v3b, v3o + j * 8 + 6, none⟩ = some (.string eu) := hc3 _ _ (hq3 6 (by omega))
                                            have f7 : wr.cell? ⟨v3b, v3o + j * 8 + 7, none⟩ = some (.float .f64 dx) := hc3 _ _ (hq3 7 (by omega))
                                            have t0 := (r7.below bw r7.lt).cell (j := 10) rfl
                                            have hi1 : (ii : Int) < (es.length : Int) := by omega
                                            have hi0 : (0 : Int) ≤ (ii : Int) := by omega
                                            have hi2 : (kn : Int) + (j : Int) = (ii : Int) := by omega
                                            have hi3 : (j : Int) < (m : Int) := by omega
                                            have hwi : IntKind.i64.wrap (ii : Int) = (ii : Int) := by rw [IntKind.wrap_i64]; omega
                                            have how := order_of (dur_eq es ii)
                                            rw [← hdw] at how
                                            have HDW := Lib.hid hdw
                                            have HDX := Lib.hid hdx
                                            have HE := Lib.hid he
                                            have HII := Lib.hid hii
                                            clear hq1 hq3 hc1 hc3 hen hen2 he hdw hdx hx0 hx1 hii
                                            go_upto_region 35 with fail
                                            obtain ⟨X1, hX1⟩ : ∃ W, W = wr.alloc (.cells #[.int .i64 en, .string es1, .int .u64 x0, .int .i64 x1, .pointer none, .string et, .string eu, .float .f64 dw] 54) := ⟨_, rfl⟩
                                            rw [← hX1]
                                            have y1 : Row X1 wr.heap.size 54 [.int .i64 en, .string es1, .int .u64 x0, .int .i64 x1, .pointer none, .string et, .string eu, .float .f64 dw] := by rw [hX1]; exact Row.new wr 54 [.int .i64 en, .string es1, .int .u64 x0, .int .i64 x1, .pointer none, .string et, .string eu, .float .f64 dw]
                                            have bX1 : Below wr.heap.size wr X1 := by rw [hX1]; exact (Below.refl _ _).alloc (Nat.le_refl _) _
                                            clear hX1
                                            have t2 := ((r9.below bw r9.lt).below bX1 (r9.below bw r9.lt).lt).cell (j := 10) rfl
                                            have f0 := (bX1.cell (p := ⟨v3b, v3o + j * 8, none⟩) hv3).trans f0
                                            have f1 := (bX1.cell (p := ⟨v3b, v3o + j * 8 + 1, none⟩) hv3).trans f1
                                            have f2 := (bX1.cell (p := ⟨v3b, v3o + j * 8 + 2, none⟩) hv3).trans f2
                                            have f3 := (bX1.cell (p := ⟨v3b, v3o + j * 8 + 3, none⟩) hv3).trans f3
                                            have f4 := (bX1.cell (p := ⟨v3b, v3o + j * 8 + 4, none⟩) hv3).trans f4
                                            have f5 := (bX1.cell (p := ⟨v3b, v3o + j * 8 + 5, none⟩) hv3).trans f5
                                            have f6 := (bX1.cell (p := ⟨v3b, v3o + j * 8 + 6, none⟩) hv3).trans f6
                                            have f7 := (bX1.cell (p := ⟨v3b, v3o + j * 8 + 7, none⟩) hv3).trans f7
                                            clear d0 d1 d2 d3 d4 d5 d6 d7 t0
                                            go_upto_region 36 with fail
                                            obtain ⟨X, hX⟩ : ∃ W, W = X1.alloc (.cells #[.int .i64 en, .string es1, .int .u64 x0, .int .i64 x1, .pointer none, .string et, .string eu, .float .f64 dx] 54) := ⟨_, rfl⟩
                                            rw [← hX]
                                            have y1 : Row X wr.heap.size 54 [.int .i64 en, .string es1, .int .u64 x0, .int .i64 x1, .pointer none, .string et, .string eu, .float .f64 dw] := by rw [hX]; exact y1.alloc _
                                            have y2 : Row X X1.heap.size 54 [.int .i64 en, .string es1, .int .u64 x0, .int .i64 x1, .pointer none, .string et, .string eu, .float .f64 dx] := by rw [hX]; exact Row.new X1 54 [.int .i64 en, .string es1, .int .u64 x0, .int .i64 x1, .pointer none, .string et, .string eu, .float .f64 dx]
                                            have bX : Below wr.heap.size wr X := bX1.trans ((show Below X1.heap.size X1 X by rw [hX]; exact (Below.refl _ _).alloc (Nat.le_refl _) _).mono bX1.size)
                                            clear hX f0 f1 f2 f3 f4 f5 f6 f7 t2
                                            have m0 := y1.cell (j := 0) rfl
                                            have n0 := y2.cell (j := 0) rfl
                                            have m1 := y1.cell (j := 1) rfl
                                            have n1 := y2.cell (j := 1) rfl
                                            have m2 := y1.cell (j := 2) rfl
                                            have n2 := y2.cell (j := 2) rfl
                                            have m3 := y1.cell (j := 3) rfl
                                            have n3 := y2.cell (j := 3) rfl
                                            have m4 := y1.cell (j := 4) rfl
                                            have n4 := y2.cell (j := 4) rfl
                                            have m5 := y1.cell (j := 5) rfl
                                            have n5 := y2.cell (j := 5) rfl
                                            have m6 := y1.cell (j := 6) rfl
                                            have n6 := y2.cell (j := 6) rfl
                                            go_upto_if 211 with fail
                                            clear m0 m1 m2 m3 m4 m5 m6 n0 n1 n2 n3 n4 n5 n6
                                            by_cases hj0 : j = 0
                                            · have hd1 : ((j : Int) == 0) = true := by rw [hj0]; rfl
                                              rw [hd1]
                                              obtain rfl : dx = 0 := by rw [HDX.out, hj0]; rfl
                                              have hiik : ii = kn := by rw [HII.out, hj0]; rfl
                                              have n7 := y2.cell (j := 7) rfl
                                              have hz0 := order_of zero_eq
                                              obtain ⟨bb, oo, cc, e1, _, hbb, hc1⟩ := ((hs.on bw).on bX).at (by rw [flat_len _ 5 spec_len]; omega)
                                              cases e1
                                              have HIK := Lib.hid hiik
                                              clear hj0 hd1 hiik
                                              go_upto_if 216 with fail
                                              go_cut [18] from 215 to 229 (fun p wc => p = .float .f64 dw ∧ Below X.heap.size X wc)
                                              case first =>
                                                by_cases hk0 : kn = 0
                                                · have hdec : decide (0 < kn) = false := decide_eq_false (by omega)
                                                  rw [hdec]
                                                  have HD := Lib.hid (show dw = 0 by rw [HDW.out, HIK.out]; unfold durAt; rw [if_pos hk0])
                                                  clear hk0 hdec
                                                  go_wp2
                                                  go_meet
                                                  exact ⟨by rw [HD.out], Below.refl _ _⟩
                                                · have hdec : decide (0 < kn) = true := decide_eq_true (by omega)
                                                  rw [hdec]
                                                  obtain ⟨pj, hpj⟩ : ∃ pj, kn = pj + 1 := ⟨kn - 1, by omega⟩
                                                  have hkl : kn < es.length := by rw [← HIK.out]; exact hlti
                                                  have he := HE.out
                                                  rw [HIK.out] at he
                                                  obtain ⟨pe, hpe⟩ : ∃ pe, es[pj]? = some pe := ⟨_, List.getElem?_eq_getElem (by omega)⟩
                                                  obtain ⟨pm, hpm⟩ : ∃ x, x = pe.at_ := ⟨_, rfl⟩
                                                  have g1 : X.cell? ⟨bb, oo + kn * 5 + 2, none⟩ = some (.int .i64 em) := hc1 _ _ (flat_at Ev.spec 5 spec_len es kn _ he 2 (by omega))
                                                  have g2 : X.cell? ⟨bb, oo + pj * 5 + 2, none⟩ = some (.int .i64 pm) := by rw [hpm]; exact hc1 _ _ (flat_at Ev.spec 5 spec_len es pj pe hpe 2 (by omega))
                                                  have ht1 := (okT_iff _).1 (HT.out.2.2 pe (List.mem_of_getElem? hpe))
                                                  have ht2 := (okT_iff _).1 (HT.out.2.2 _ (List.mem_of_getElem? he))
                                                  simp only at ht2
                                                  rw [← hpm] at ht1
                                                  have hz := fun W => zdays_any (em - pm) W (by omega) (by omega)
                                                  have hww : IntKind.i64.wrap (em - pm) = em - pm := by rw [IntKind.wrap_i64]; omega
                                                  have HD := Lib.hid (show dw = hund ((em - pm).tdiv 864000000000) by
                                                    rw [HDW.out, HIK.out]
                                                    unfold durAt
                                                    rw [if_neg (by omega), show kn - 1 = pj by omega, List.getD_eq_getElem?_getD, List.getD_eq_getElem?_getD, he, hpe, hpm]
                                                    rfl)
                                                  obtain ⟨fl, hfl⟩ : ∃ x, x = hund ((em - pm).tdiv 864000000000) := ⟨_, rfl⟩
                                                  rw [← hfl] at hz HD
                                                  have hi5 : (pj : Int) < (es.length : Int) := by omega
                                                  have hi6 : (kn : Int) < (es.length : Int) := by omega
                                                  have hj1 : (kn : Int) - 1 = (pj : Int) := by omega
                                                  have hj2 : (0 : Int) ≤ (pj : Int) := by omega
                                                  have hj3 : (0 : Int) ≤ (kn : Int) := by omega
                                                  have hw64 : IntKind.i64.wrap (pj : Int) = (pj : Int) := by rw [IntKind.wrap_i64]; omega
                                                  clear hc1 hpe hpm ht1 ht2 hfl hdec hk0 hpj he hi2
                                                  go_upto_region 43 with fail
                                                  go_region_held3 (fun w' => w'.cell? ⟨bb, oo + kn * 5 + 2, none⟩ = some (.int .i64 em) ∧ w'.cell? ⟨bb, oo + pj * 5 + 2, none⟩ = some (.int .i64 pm)) (first | (refine ⟨?_, ?_⟩ <;> with_reducible assumption) | (simp [*, go_sem]; done) | go_keep)
                                                    (first | (go_at_call 13; refine (hz _).mono ?_; rintro x Wa ⟨rfl, rfl⟩))
                                                  go_wp2_with fail
                                                  go_meet
                                                  exact ⟨by rw [HD.out], (Below.refl _ _).drew⟩
                                              case rest =>
                                                obtain ⟨rfl, bZ⟩ := hcut
                                                have y1 := y1.below bZ y1.lt
                                                have bZ := bw.trans ((bX.trans (bZ.mono bX.size)).mono bw.size)
                                                have m7 := y1.cell (j := 7) rfl
                                                clear hc1 n7
                                                go_wp2
                                                go_roundw
                                                case rel => exact ⟨j + 1, by omega, by go_num, bZ⟩
                                                case measure => simp [intOf]; omega
                                            · have hd1 : ((j : Int) == 0) = false := by simpa using hj0
                                              rw [hd1]
                                              obtain rfl : dx = dw := by rw [HDX.out, HDW.out, HII.out, durAt_drop es kn j hj0]
                                              have m7 := y1.cell (j := 7) rfl
                                              have n7 := y2.cell (j := 7) rfl
                                              have bZ := bw.trans (bX.mono bw.size)
                                              clear hj0 hd1
                                              go_wp2
                                              go_roundw
                                              case rel => exact ⟨j + 1, by omega, by go_num, bZ⟩
                                              case measure => simp [intOf]; omega
                                          · have hdk : decide (j < m) = false := decide_eq_false hlt
                                            have r7 := r7.below bw r7.lt
                                            have r8 := r8.below bw r8.lt
                                            have r9 := r9.below bw r9.lt
                                            have b1 := b1.trans (bw.mono b1.size)
                                            have u0 := r7.cell (j := 6) rfl
                                            have u1 := r7.cell (j := 7) rfl
                                            have u2 := r7.cell (j := 8) rfl
                                            by_cases hke : kn < es.length
                                            · obtain ⟨h1, h2⟩ := HPS.out hke
                                              subst h1 h2
                                              have hkd : decide (kn < es.length) = true := decide_eq_true hke
                                              have u3 := r9.cell (j := 6) rfl
                                              have u4 := r9.cell (j := 7) rfl
                                              have u5 := r9.cell (j := 8) rfl
                                              go_wp2
                                              go_ret
                                              exact ⟨rfl, b1⟩
                                            · obtain ⟨h1, h2⟩ := HPQ.out hke
                                              subst h1 h2
                                              have hkd : decide (kn < es.length) = false := decide_eq_false hke
                                              have u3 := r8.cell (j := 6) rfl
                                              have u4 := r8.cell (j := 7) rfl
                                              have u5 := r8.cell (j := 8) rfl
                                              go_wp2
                                              go_ret
                                              exact ⟨rfl, b1⟩

end Go.Proofs.Qxb6628314a

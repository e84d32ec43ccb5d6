/-
  THE WALK of the law FnNewTimelineWhole (3).
-/
import Derived.Test.Qxb6628314aBytes
import Derived.Test.Qxb6628314aTl
import Derived.Test.Qxb6628314aEq
namespace Go.Proofs.Qxb6628314a
open Go.RowKit

theorem Try.size25 : (Try.prog.info? 25).map (·.size) = some 25 := by kernel_rfl
theorem Try.size45 : (Try.prog.info? 45).map (·.size) = some 11 := by kernel_rfl
attribute [local go_sem] run_eqptr run_eqfloat run_store_float

theorem lastAt_ok {es : List Ev} {ca : Int} (h0 : okT ca = true) (h : ∀ e ∈ es, okT e.at_ = true) : okT (lastAt es ca) = true := by
  unfold lastAt
  split
  · exact h0
  · next hn =>
    have hlt : es.length - 1 < es.length := by omega
    rw [List.getD_eq_getElem?_getD, List.getElem?_eq_getElem hlt]
    exact h _ (List.getElem_mem hlt)
theorem dur_eq (es : List Ev) (k : Nat) : Op.floatEq .f64 (durAt es k) (durAt es k) = true := by
  unfold durAt
  split
  · exact zero_eq
  · exact hund_eq _
theorem order_of {f : Nat} (h : Op.floatEq .f64 f f = true) : FloatKind.f64.format.order f f = some .eq := by
  unfold Op.floatEq at h
  simpa using h
theorem ents_at (es : List Ev) (n k i : Nat) (hk : k < n) (hi : i < 8) : (ents es n)[k * 8 + i]? = (entAt es k)[i]? :=
  flat_at (entAt es) 8 (entAt_len es) (List.range n) k k (by rw [List.getElem?_range hk]) i hi

set_option maxRecDepth 20000 in
set_option maxHeartbeats 8000000 in
theorem whole_any (a : Ap) (us : List ByteArray) (v : Value) (es : List Ev) (w : World) (hf : a.fits) (hfit : ∀ e ∈ es, e.fits) (hel : a.el = us.length) (hu : Sl w (.slice a.ea a.el a.ec) us.length 1 (strs us)) (h : Sl w v es.length 5 (es.flatMap Ev.spec)) :
    Calls Try.prog 3 #[.agg a.cells.toArray, v] w fun e w' => e = .returned (.bool true) ∧ Below w.heap.size w w' := by
  obtain ⟨ao, c, rfl⟩ := h.shape
  have HEL := Lib.hid hel
  clear hel
  unfold Ap.cells
  go_enter Try.func3, Try.ntmps3
  go_upto_region 1 with fail
  obtain ⟨W1, hW1⟩ : ∃ W, W = w.alloc (.cells (Ap.cells a).toArray 25) := ⟨_, rfl⟩
  have r1 : Row W1 w.heap.size 25 (Ap.cells a) := by rw [hW1]; exact Row.new w 25 (Ap.cells a)
  have b1 : Below w.heap.size w W1 := by rw [hW1]; exact (Below.refl _ _).alloc (Nat.le_refl _) _
  unfold Ap.cells at hW1
  rw [← hW1]
  clear hW1
  have hs := h.on b1
  have hus := hu.on b1
  clear hu h
  go_cut [0, 15] from 12 to 15 (fun _ p wc => ∃ q, p = .bool (!q) ∧ (q = true → us.length ≤ 1048576 ∧ es.length ≤ 1048576) ∧ Below W1.heap.size W1 wc)
  case first =>
    go_wp2_with (refine wpList_load_row rfl 25 _ rfl w.heap.size rfl 25 _ (0, 0) _ r1 Try.underlying25 rfl Try.size25 ?_)
    refine (bytes_whole a us _ es W1 HEL.out hus hs).mono ?_
    rintro x wx ⟨q, rfl, hq⟩
    go_wp2_with fail
    go_meet
    exact ⟨q, rfl, hq⟩
  case rest =>
    obtain ⟨q, rfl, hq, bq⟩ := hcut
    obtain ⟨w2, hw2⟩ : ∃ V, V = wc := ⟨_, rfl⟩
    subst hw2
    cases q
    case false =>
      go_wp2
      go_ret
      exact ⟨rfl, b1.trans (bq.mono b1.size)⟩
    case true =>
      obtain ⟨hul, hl⟩ := hq rfl
      have r1 := r1.below bq r1.lt
      have hs := hs.on bq
      have hus := hus.on bq
      have b1 := b1.trans (bq.mono b1.size)
      clear bq hq
      go_upto_region 3 with fail
      go_cut [19] from 16 to 19 (fun p wc => ∃ q, p = .bool (!q) ∧ Below w2.heap.size w2 wc)
      case first =>
        go_wp2_with (refine wpList_load_row rfl 25 _ rfl w.heap.size rfl 25 _ (0, 0) _ r1 Try.underlying25 rfl Try.size25 ?_)
        refine (sizeOK_any a us _ es w2 hl HEL.out hul hus hs).mono ?_
        rintro x wx ⟨q, rfl, hq⟩
        go_wp2_with fail
        go_meet
        exact ⟨q, rfl, hq⟩
      case rest =>
        obtain ⟨q, rfl, bq⟩ := hcut
        obtain ⟨w3, hw3⟩ : ∃ V, V = wc := ⟨_, rfl⟩
        subst hw3
        cases q
        case false =>
          go_wp2
          go_ret
          exact ⟨rfl, b1.trans (bq.mono b1.size)⟩
        case true =>
          have r1 := r1.below bq r1.lt
          have hs := hs.on bq
          have b1 := b1.trans (bq.mono b1.size)
          clear bq hus
          go_upto_region 5 with fail
          go_cut [23] from 20 to 23 (fun p wc => ∃ q, p = .bool (!q) ∧ (q = true → timesOK a es) ∧ Below w3.heap.size w3 wc)
          case first =>
            go_wp2_with (refine wpList_load_row rfl 25 _ rfl w.heap.size rfl 25 _ (0, 0) _ r1 Try.underlying25 rfl Try.size25 ?_)
            refine (timesOK_any a _ es w3 hl hs).mono ?_
            rintro x wx ⟨q, rfl, hq⟩
            go_wp2_with fail
            go_meet
            exact ⟨q, rfl, hq⟩
          case rest =>
            obtain ⟨q, rfl, hq, bq⟩ := hcut
            obtain ⟨w4, hw4⟩ : ∃ V, V = wc := ⟨_, rfl⟩
            subst hw4
            cases q
            case false =>
              go_wp2
              go_ret
              exact ⟨rfl, b1.trans (bq.mono b1.size)⟩
            case true =>
              have HT := Lib.hid (hq rfl)
              have r1 := r1.below bq r1.lt
              have hs := hs.on bq
              have b1 := b1.trans (bq.mono b1.size)
              clear bq hq
              go_upto_region 7 with fail
              go_cut [5] from 24 to 25 (fun p wc => ∃ g dp ap, p = .pointer (some ⟨g, 0, none⟩) ∧ w4.heap.size ≤ g ∧ Row wc g 38 (a.real dp ap) ∧ DecAt w4.heap.size wc a dp ∧ Below w4.heap.size w4 wc)
              case first =>
                go_wp2_with (refine wpList_load_row rfl 25 _ rfl w.heap.size rfl 25 _ (0, 0) _ r1 Try.underlying25 rfl Try.size25 ?_)
                refine (appeal_one a w4 hf).mono ?_
                rintro x w5 ⟨dp, ap, rfl, hdec, bq⟩
                go_wp2_with (refine wpList_store_row rfl 38 _ _ rfl w5.heap.size rfl 38 zero38 (a.real dp ap) (Row.new w5 38 zero38) rfl rfl Try.size38 rfl ?_; intro w6 R6 hb6 _)
                go_meet
                have bA : Below w5.heap.size w5 w6 := hb6 _ _ (Nat.le_refl _) ((Below.refl _ _).alloc (Nat.le_refl _) _)
                exact ⟨_, dp, ap, rfl, bq.size, R6, hdec.on bA, bq.trans (bA.mono bq.size)⟩
              case rest =>
                obtain ⟨g, dp, ap, rfl, hg4, r6, hdec, bq⟩ := hcut
                obtain ⟨w5, hw5⟩ : ∃ V, V = wc := ⟨_, rfl⟩
                subst hw5
                have hg1 : w.heap.size < g := by have := r1.lt; omega
                have r1 := r1.below bq r1.lt
                have hs := hs.on bq
                have b1 := b1.trans (bq.mono b1.size)
                clear bq
                go_upto_region 8 with fail
                go_cut [6] from 26 to 27 (fun p wc => ∃ ge, p = .slice (some ⟨ge, 0, none⟩) es.length es.length ∧ Row wc ge 52 (es.flatMap Ev.real) ∧ Below w5.heap.size w5 wc)
                case first =>
                  go_wp2_with fail
                  refine (events_any _ es w5 hl hfit hs).mono ?_
                  rintro x wx ⟨ge, rfl, _, hge, bq⟩
                  go_wp2_with fail
                  go_meet
                  exact ⟨ge, rfl, hge, bq⟩
                case rest =>
                  obtain ⟨ge, rfl, hge, bq⟩ := hcut
                  obtain ⟨w6, hw6⟩ : ∃ V, V = wc := ⟨_, rfl⟩
                  subst hw6
                  have r1 := r1.below bq r1.lt
                  have hs := hs.on bq
                  have b1 := b1.trans (bq.mono b1.size)
                  have r6 := r6.below bq r6.lt
                  have hdec := hdec.on bq
                  clear bq
                  go_upto_region 9 with fail
                  go_cut [5, 6, 7] from 28 to 30 (fun _ _ p wc => ∃ gt v rp, p = .pointer (some ⟨gt, 0, none⟩) ∧ w6.heap.size ≤ gt ∧ Row wc gt 45 (tlL a.id a.uid a.st (a.ca % 1000000000) (a.ca / 1000000000) (lastAt es a.ca % 1000000000) (lastAt es a.ca / 1000000000) rp v) ∧ Sl wc v es.length 8 (ents es es.length) ∧ ResAt wc dp (hund ((a.da - a.ca).tdiv 864000000000)) rp ∧ Below w6.heap.size w6 wc)
                  case first =>
                    have hca := (okT_iff _).1 HT.out.1
                    have htm : ∀ e ∈ es, -2305843009213693952 ≤ e.at_ ∧ e.at_ ≤ 2305843009213693952 := fun e he => (okT_iff _).1 (HT.out.2.2 e he)
                    have hd' : dp = none ∨ ∃ d, dp = some ⟨d, 0, none⟩ ∧ w6.cell? ⟨d, 6, none⟩ = some (.int .u64 (a.da % 1000000000)) ∧ w6.cell? ⟨d, 7, none⟩ = some (.int .i64 (a.da / 1000000000)) ∧ w6.cell? ⟨d, 8, none⟩ = some (.pointer none) ∧ -2305843009213693952 ≤ a.da ∧ a.da ≤ 2305843009213693952 := by
                      rcases hdec with ⟨_, e⟩ | ⟨hd, d, _, e, h6, h7, h8⟩
                      · exact .inl e
                      · exact .inr ⟨d, e, h6, h7, h8, (okT_iff _).1 (HT.out.2.1 hd)⟩
                    have htl := timeline_one a.id a.sid a.uid a.st a.pr a.rsn a.stm a.ea a.el a.ec (a.ca % 1000000000) (a.ca / 1000000000) (a.xa % 1000000000) (a.xa / 1000000000) dp ap ge es w6 a.ca a.da rfl rfl hca hd' hl htm hge
                    clear hca htm hd' hdec hs
                    obtain ⟨c0, hc0⟩ : ∃ x, x = a.ca % 1000000000 := ⟨_, rfl⟩
                    obtain ⟨c1, hc1⟩ : ∃ x, x = a.ca / 1000000000 := ⟨_, rfl⟩
                    obtain ⟨x0, hx0⟩ : ∃ x, x = a.xa % 1000000000 := ⟨_, rfl⟩
                    obtain ⟨x1, hx1⟩ : ∃ x, x = a.xa / 1000000000 := ⟨_, rfl⟩
                    have r6' : Row w6 g 38 (apL a.id a.sid a.uid a.st a.pr a.rsn a.stm a.ea a.el a.ec c0 c1 x0 x1 dp ap) := by rw [hc0, hc1, hx0, hx1]; exact r6
                    rw [← hc0, ← hc1, ← hx0, ← hx1] at htl
                    have HC0 := Lib.hid hc0
                    have HC1 := Lib.hid hc1
                    clear hc0 hc1 hx0 hx1
                    go_wp2_with (refine wpList_load_row rfl 38 _ rfl g rfl 38 _ (0, 0) _ r6' Try.underlying38 rfl Try.size38 ?_)
                    refine htl.mono ?_
                    rintro x wx ⟨v, rp, rfl, hsl, hres, bq⟩
                    obtain ⟨va, vc, rfl⟩ := hsl.shape
                    rw [← HC0.out, ← HC1.out]
                    go_wp2_with (refine wpList_store_row rfl 45 _ _ rfl wx.heap.size rfl 45 zero45 (tlL a.id a.uid a.st c0 c1 (lastAt es a.ca % 1000000000) (lastAt es a.ca / 1000000000) rp (.slice va es.length vc)) (Row.new wx 45 zero45) rfl rfl Try.size45 rfl ?_; intro w' R' hb _)
                    go_meet
                    have bA : Below wx.heap.size wx w' := hb _ _ (Nat.le_refl _) ((Below.refl _ _).alloc (Nat.le_refl _) _)
                    refine ⟨_, _, rp, rfl, bq.size, ?_, hsl.on bA, hres.on bA, bq.trans (bA.mono bq.size)⟩
                    rw [← HC0.out, ← HC1.out]
                    exact R'
                  case rest =>
                    obtain ⟨gt, v, rp, rfl, hgt, r7, hsl, hres, bq⟩ := hcut
                    obtain ⟨w7, hw7⟩ : ∃ V, V = wc := ⟨_, rfl⟩
                    subst hw7
                    obtain ⟨va, vc, rfl⟩ := hsl.shape
                    have r1 := r1.below bq r1.lt
                    have hs := hs.on bq
                    have b1 := b1.trans (bq.mono b1.size)
                    have hgt1 : w.heap.size < gt := by have := b1.size; have := r6.lt; omega
                    have hres : ResAt w7 dp (hund ((a.da - a.ca).tdiv 864000000000)) rp := hres
                    have hdn : (a.hd = false ∧ dp = none) ∨ (a.hd = true ∧ dp ≠ none) := by
                      rcases hdec with ⟨h, e⟩ | ⟨h, d, _, e, _⟩
                      · exact .inl ⟨h, e⟩
                      · exact .inr ⟨h, by rw [e]; simp⟩
                    clear bq r6 hdec hge
                    have hok := (okT_iff _).1 (lastAt_ok HT.out.1 HT.out.2.2)
                    have hca := (okT_iff _).1 HT.out.1
                    have hat1 := fun W => at_any a.ca W (by omega) (by omega)
                    have hat2 := fun W => at_any (lastAt es a.ca) W (by omega) (by omega)
                    obtain ⟨la, hla⟩ : ∃ x, x = lastAt es a.ca := ⟨_, rfl⟩
                    rw [← hla] at r7 hat2
                    obtain ⟨c0, hc0⟩ : ∃ x, x = a.ca % 1000000000 := ⟨_, rfl⟩
                    obtain ⟨c1, hc1⟩ : ∃ x, x = a.ca / 1000000000 := ⟨_, rfl⟩
                    obtain ⟨l0, hl0⟩ : ∃ x, x = la % 1000000000 := ⟨_, rfl⟩
                    obtain ⟨l1, hl1⟩ : ∃ x, x = la / 1000000000 := ⟨_, rfl⟩
                    rw [← hc0, ← hc1, ← hl0, ← hl1] at r7
                    rw [← hc0, ← hc1] at hat1
                    rw [← hl0, ← hl1] at hat2
                    have HLA := Lib.hid hla
                    clear hok hca hla hc0 hc1 hl0 hl1
                    have t0 := r7.cell (j := 0) rfl
                    have t1 := r7.cell (j := 1) rfl
                    have t2 := r7.cell (j := 2) rfl
                    have e0 := r1.cell (j := 0) rfl
                    have e2 := r1.cell (j := 2) rfl
                    have e3 := r1.cell (j := 3) rfl
                    go_upto_region 12 with fail
                    clear t0 t1 t2 e0 e2 e3
                    go_cut [55] from 31 to 55 (fun p wc => p = .bool false ∧ Below w7.heap.size w7 wc)
                    case first =>
                      have t3 := r7.cell (j := 3) rfl
                      have t4 := r7.cell (j := 4) rfl
                      have t5 := r7.cell (j := 5) rfl
                      have e8 := r1.cell (j := 8) rfl
                      have m1 := r1.lt
                      have m7 := r7.lt
                      go_region_held3 (fun w' => w'.cell? ⟨gt, 3, none⟩ = some (.int .u64 c0) ∧ w'.cell? ⟨gt, 4, none⟩ = some (.int .i64 c1) ∧ w'.cell? ⟨gt, 5, none⟩ = some (.pointer none) ∧ w'.cell? ⟨w.heap.size, 8, none⟩ = some (.int .i64 a.ca)) (first | (refine ⟨?_, ?_, ?_, ?_⟩ <;> with_reducible assumption) | (simp [*, go_sem]; done) | go_keep)
                        (first | (go_at_call 11; refine (hat1 w7.drew).mono ?_; rintro x Wa ⟨rfl, hba⟩; have p3 := (hba.cell (p := ⟨gt, 3, none⟩) m7).trans t3; have p4 := (hba.cell (p := ⟨gt, 4, none⟩) m7).trans t4; have p5 := (hba.cell (p := ⟨gt, 5, none⟩) m7).trans t5; have p8 := (hba.cell (p := ⟨w.heap.size, 8, none⟩) m1).trans e8))
                      have D1 : Below w7.heap.size w7 Wa := (show Below w7.heap.size w7 w7.drew from (Below.refl _ _).drew).trans hba
                      go_wp2_with fail
                      go_meet
                      exact ⟨rfl, D1⟩
                    case rest =>
                      obtain ⟨rfl, bq⟩ := hcut
                      obtain ⟨w8, hw8⟩ : ∃ V, V = wc := ⟨_, rfl⟩
                      subst hw8
                      have r1 := r1.below bq r1.lt
                      have r7 := r7.below bq r7.lt
                      have hs := hs.on bq
                      have hsl := hsl.on bq
                      have hres := hres.on bq
                      have b1 := b1.trans (bq.mono b1.size)
                      clear bq
                      have e8 := r1.cell (j := 8) rfl
                      go_upto_if 60 with fail
                      go_cut [8] from 56 to 67 (fun p wc => p = .int .i64 la ∧ w8 = wc)
                      case first =>
                        by_cases hn : es.length = 0
                        · have hdec : decide (0 < es.length) = false := decide_eq_false (by omega)
                          rw [hdec]
                          have hz : la = a.ca := by rw [HLA.out]; unfold lastAt; rw [if_pos hn]
                          have HZ := Lib.hid hz
                          clear hn hdec hz
                          go_wp2
                          go_meet
                          exact ⟨by rw [HZ.out], rfl⟩
                        · have hdec : decide (0 < es.length) = true := decide_eq_true (by omega)
                          rw [hdec]
                          obtain ⟨j, hj⟩ : ∃ j, j = es.length - 1 := ⟨_, rfl⟩
                          have hlt : j < es.length := by omega
                          obtain ⟨bb, oo, cc, e1, _, _, hc1⟩ := hs.at (by rw [flat_len _ 5 spec_len]; omega)
                          cases e1
                          obtain ⟨x, hx⟩ : ∃ x, es[j]? = some x := ⟨_, List.getElem?_eq_getElem hlt⟩
                          have g2 : w8.cell? ⟨bb, oo + (j * 5 + 2), none⟩ = some (.int .i64 x.at_) := hc1 _ _ (flat_at Ev.spec 5 spec_len es j x hx 2 (by omega))
                          rw [← Nat.add_assoc] at g2
                          have hz : la = x.at_ := by rw [HLA.out]; unfold lastAt; rw [if_neg hn, ← hj, List.getD_eq_getElem?_getD, hx]; rfl
                          have HZ := Lib.hid hz
                          have hi1 : (j : Int) < (es.length : Int) := by omega
                          have hj1 : (es.length : Int) - 1 = (j : Int) := by omega
                          have hj0 : (0 : Int) ≤ (j : Int) := by omega
                          have hw64 : IntKind.i64.wrap (j : Int) = (j : Int) := by rw [IntKind.wrap_i64]; omega
                          clear hn hdec hz hj hx hc1
                          go_wp2
                          go_meet
                          exact ⟨by rw [HZ.out], rfl⟩
                      case rest =>
                        obtain ⟨rfl, rfl⟩ := hcut
                        clear e8
                        go_upto_region 17 with fail
                        go_cut [72] from 68 to 72 (fun p wc => p = .bool false ∧ Below w8.heap.size w8 wc)
                        case first =>
                          have t6 := r7.cell (j := 6) rfl
                          have t7 := r7.cell (j := 7) rfl
                          have t8 := r7.cell (j := 8) rfl
                          have m7 := r7.lt
                          go_region_held3 (fun w' => w'.cell? ⟨gt, 6, none⟩ = some (.int .u64 l0) ∧ w'.cell? ⟨gt, 7, none⟩ = some (.int .i64 l1) ∧ w'.cell? ⟨gt, 8, none⟩ = some (.pointer none)) (first | (refine ⟨?_, ?_, ?_⟩ <;> with_reducible assumption) | (simp [*, go_sem]; done) | go_keep)
                            (first | (go_at_call 11; refine (hat2 w8.drew).mono ?_; rintro x Wa ⟨rfl, hba⟩; have p6 := (hba.cell (p := ⟨gt, 6, none⟩) m7).trans t6; have p7 := (hba.cell (p := ⟨gt, 7, none⟩) m7).trans t7; have p8 := (hba.cell (p := ⟨gt, 8, none⟩) m7).trans t8))
                          have D1 : Below w8.heap.size w8 Wa := (show Below w8.heap.size w8 w8.drew from (Below.refl _ _).drew).trans hba
                          go_wp2_with fail
                          go_meet
                          exact ⟨rfl, D1⟩
                        case rest =>
                          obtain ⟨rfl, bq⟩ := hcut
                          obtain ⟨w9, hw9⟩ : ∃ V, V = wc := ⟨_, rfl⟩
                          subst hw9
                          have r1 := r1.below bq r1.lt
                          have r7 := r7.below bq r7.lt
                          have hs := hs.on bq
                          have hsl := hsl.on bq
                          have hres := hres.on bq
                          have b1 := b1.trans (bq.mono b1.size)
                          clear bq hat1 hat2 HLA
                          have t10 := r7.cell (j := 10) rfl
                          go_wp2
                          clear t10
                          go_loopw [9] (fun i wr => ∃ k : Nat, k ≤ es.length ∧ i = .int .i64 k ∧ Below w9.heap.size w9 wr) (fun i _ => es.length - (intOf i).toNat)
                          case atStart => exact ⟨0, Nat.zero_le _, rfl, Below.refl _ _⟩
                          case round =>
                            obtain ⟨k, hk, rfl, bw⟩ := hrel
                            by_cases hlt : k < es.length
                            · obtain ⟨e, he⟩ : ∃ e, es[k]? = some e := ⟨_, List.getElem?_eq_getElem hlt⟩
                              obtain ⟨dk, hdk⟩ : ∃ x, x = durAt es k := ⟨_, rfl⟩
                              obtain ⟨en, es1, em, et, eu⟩ := e
                              obtain ⟨x0, hx0⟩ : ∃ x, x = em % 1000000000 := ⟨_, rfl⟩
                              obtain ⟨x1, hx1⟩ : ∃ x, x = em / 1000000000 := ⟨_, rfl⟩
                              have hen : entAt es k = [.int .i64 en, .string es1, .int .u64 x0, .int .i64 x1, .pointer none, .string et, .string eu, .float .f64 dk] := by
                                unfold entAt; rw [List.getD_eq_getElem?_getD, he, hx0, hx1, hdk]; rfl
                              have hsw := hs.on bw
                              have hslw := hsl.on bw
                              obtain ⟨bb, oo, cc, e1, _, hbb, hc1⟩ := hsw.at (by rw [flat_len _ 5 spec_len]; omega)
                              cases e1
                              obtain ⟨vb, vo, cv, e2, _, hvb, hc2⟩ := hslw.at (by rw [ents_len]; omega)
                              cases e2
                              have hq := fun i (hi : i < 5) => flat_at Ev.spec 5 spec_len es k ⟨en, es1, em, et, eu⟩ he i hi
                              have g0 : wr.cell? ⟨bb, oo + k * 5, none⟩ = some (.int .i64 en) := hc1 _ _ (hq 0 (by omega))
                              have g1 : wr.cell? ⟨bb, oo + k * 5 + 1, none⟩ = some (.string es1) := hc1 _ _ (hq 1 (by omega))
                              have g2 : wr.cell? ⟨bb, oo + k * 5 + 2, none⟩ = some (.int .i64 em) := hc1 _ _ (hq 2 (by omega))
                              have g3 : wr.cell? ⟨bb, oo + k * 5 + 3, none⟩ = some (.string et) := hc1 _ _ (hq 3 (by omega))
                              have g4 : wr.cell? ⟨bb, oo + k * 5 + 4, none⟩ = some (.string eu) := hc1 _ _ (hq 4 (by omega))
                              have hq2 := fun i (hi : i < 8) => ents_at es es.length k i hlt hi
                              rw [hen] at hq2
                              have d0 : wr.cell? ⟨vb, vo + k * 8, none⟩ = some (.int .i64 en) := hc2 _ _ (hq2 0 (by omega))
                              have d1 : wr.cell? ⟨vb, vo + k * 8 + 1, none⟩ = some (.string es1) := hc2 _ _ (hq2 1 (by omega))
                              have d2 : wr.cell? ⟨vb, vo + k * 8 + 2, none⟩ = some (.int .u64 x0) := hc2 _ _ (hq2 2 (by omega))
                              have d3 : wr.cell? ⟨vb, vo + k * 8 + 3, none⟩ = some (.int .i64 x1) := hc2 _ _ (hq2 3 (by omega))
                              have d4 : wr.cell? ⟨vb, vo + k * 8 + 4, none⟩ = some (.pointer none) := hc2 _ _ (hq2 4 (by omega))
                              have d5 : wr.cell? ⟨vb, vo + k * 8 + 5, none⟩ = some (.string et) := hc2 _ _ (hq2 5 (by omega))
                              have d6 : wr.cell? ⟨vb, vo + k * 8 + 6, none⟩ = some (.string eu) := hc2 _ _ (hq2 6 (by omega))
                              have d7 : wr.cell? ⟨vb, vo + k * 8 + 7, none⟩ = some (.float .f64 dk) := hc2 _ _ (hq2 7 (by omega))
                              have r7w := r7.below bw r7.lt
                              have t10 := r7w.cell (j := 10) rfl
                              have hi1 : (k : Int) < (es.length : Int) := by omega
                              have hfe := hfit _ (List.mem_of_getElem? he)
                              have hev := fun W => event_any en em es1 et eu W hfe.1 hfe.2
                              rw [← hx0, ← hx1] at hev
                              have HE := Lib.hid he
                              have HDK := Lib.hid hdk
                              clear hq hq2 hc1 hc2 hen he hdk hx0 hx1 hfe
                              go_upto_region 25 with fail
                              obtain ⟨X, hX⟩ : ∃ W, W = wr.alloc (.cells #[.int .i64 en, .string es1, .int .u64 x0, .int .i64 x1, .pointer none, .string et, .string eu, .float .f64 dk] 54) := ⟨_, rfl⟩
                              rw [← hX]
                              have x2 : Row X wr.heap.size 54 [.int .i64 en, .string es1, .int .u64 x0, .int .i64 x1, .pointer none, .string et, .string eu, .float .f64 dk] := by rw [hX]; exact Row.new wr 54 [.int .i64 en, .string es1, .int .u64 x0, .int .i64 x1, .pointer none, .string et, .string eu, .float .f64 dk]
                              have bX : Below wr.heap.size wr X := by rw [hX]; exact (Below.refl _ _).alloc (Nat.le_refl _) _
                              clear hX
                              have G0 := (bX.cell (p := ⟨bb, oo + k * 5, none⟩) hbb).trans g0
                              have G1 := (bX.cell (p := ⟨bb, oo + k * 5 + 1, none⟩) hbb).trans g1
                              have G2 := (bX.cell (p := ⟨bb, oo + k * 5 + 2, none⟩) hbb).trans g2
                              have G3 := (bX.cell (p := ⟨bb, oo + k * 5 + 3, none⟩) hbb).trans g3
                              have G4 := (bX.cell (p := ⟨bb, oo + k * 5 + 4, none⟩) hbb).trans g4
                              clear g0 g1 g2 g3 g4 d0 d1 d2 d3 d4 d5 d6 d7 t10
                              go_cut [97] from 85 to 97 (fun p wc => p = .bool false ∧ Below X.heap.size X wc)
                              case first =>
                                have y0 := x2.cell (j := 0) rfl
                                have y1 := x2.cell (j := 1) rfl
                                have y2 := x2.cell (j := 2) rfl
                                have y3 := x2.cell (j := 3) rfl
                                have y4 := x2.cell (j := 4) rfl
                                have y5 := x2.cell (j := 5) rfl
                                have y6 := x2.cell (j := 6) rfl
                                have m2 := x2.lt
                                have m1 : bb < X.heap.size := Nat.lt_of_lt_of_le hbb bX.size
                                go_region_held3 (fun w' => w'.cell? ⟨wr.heap.size, 0, none⟩ = some (.int .i64 en) ∧ w'.cell? ⟨wr.heap.size, 1, none⟩ = some (.string es1) ∧ w'.cell? ⟨wr.heap.size, 2, none⟩ = some (.int .u64 x0) ∧ w'.cell? ⟨wr.heap.size, 3, none⟩ = some (.int .i64 x1) ∧ w'.cell? ⟨wr.heap.size, 4, none⟩ = some (.pointer none) ∧ w'.cell? ⟨wr.heap.size, 5, none⟩ = some (.string et) ∧ w'.cell? ⟨wr.heap.size, 6, none⟩ = some (.string eu) ∧ w'.cell? ⟨bb, oo + k * 5, none⟩ = some (.int .i64 en) ∧ w'.cell? ⟨bb, oo + k * 5 + 1, none⟩ = some (.string es1) ∧ w'.cell? ⟨bb, oo + k * 5 + 2, none⟩ = some (.int .i64 em) ∧ w'.cell? ⟨bb, oo + k * 5 + 3, none⟩ = some (.string et) ∧ w'.cell? ⟨bb, oo + k * 5 + 4, none⟩ = some (.string eu)) (first | (refine ⟨?_, ?_, ?_, ?_, ?_, ?_, ?_, ?_, ?_, ?_, ?_, ?_⟩ <;> with_reducible assumption) | (simp [*, go_sem]; done) | go_keep)
                                  (first | (go_at_call 12; refine (hev X.drew).mono ?_; rintro x Wa ⟨rfl, hba⟩; have p0 := (hba.cell (p := ⟨wr.heap.size, 0, none⟩) m2).trans y0; have p1 := (hba.cell (p := ⟨wr.heap.size, 1, none⟩) m2).trans y1; have p2 := (hba.cell (p := ⟨wr.heap.size, 2, none⟩) m2).trans y2; have p3 := (hba.cell (p := ⟨wr.heap.size, 3, none⟩) m2).trans y3; have p4 := (hba.cell (p := ⟨wr.heap.size, 4, none⟩) m2).trans y4; have p5 := (hba.cell (p := ⟨wr.heap.size, 5, none⟩) m2).trans y5; have p6 := (hba.cell (p := ⟨wr.heap.size, 6, none⟩) m2).trans y6; have q0 := (hba.cell (p := ⟨bb, oo + k * 5, none⟩) m1).trans G0; have q1 := (hba.cell (p := ⟨bb, oo + k * 5 + 1, none⟩) m1).trans G1; have q2 := (hba.cell (p := ⟨bb, oo + k * 5 + 2, none⟩) m1).trans G2; have q3 := (hba.cell (p := ⟨bb, oo + k * 5 + 3, none⟩) m1).trans G3; have q4 := (hba.cell (p := ⟨bb, oo + k * 5 + 4, none⟩) m1).trans G4))
                                have D1 : Below X.heap.size X Wa := (show Below X.heap.size X X.drew from (Below.refl _ _).drew).trans hba
                                go_wp2_with fail
                                go_meet
                                exact ⟨rfl, D1⟩
                              case rest =>
                                obtain ⟨rfl, bY⟩ := hcut
                                obtain ⟨Y, hY⟩ : ∃ V, V = wc := ⟨_, rfl⟩
                                subst hY
                                have x2 := x2.below bY x2.lt
                                have bY := bX.trans (bY.mono bX.size)
                                have G2 := (bY.cell (p := ⟨bb, oo + k * 5 + 2, none⟩) hbb).trans ((bX.cell (p := ⟨bb, oo + k * 5 + 2, none⟩) hbb).symm.trans G2)
                                clear G0 G1 G3 G4 bX hev
                                go_upto_if 99 with fail
                                go_cut [11] from 98 to 112 (fun p wc => p = .float .f64 dk ∧ Below Y.heap.size Y wc)
                                case first =>
                                  by_cases hk0 : k = 0
                                  · have hdec : decide (0 < k) = false := decide_eq_false (by omega)
                                    rw [hdec]
                                    have HD := Lib.hid (show dk = 0 by rw [HDK.out]; unfold durAt; rw [if_pos hk0])
                                    clear hk0 hdec
                                    go_wp2
                                    go_meet
                                    exact ⟨by rw [HD.out], Below.refl _ _⟩
                                  · have hdec : decide (0 < k) = true := decide_eq_true (by omega)
                                    rw [hdec]
                                    obtain ⟨j, hj⟩ : ∃ j, k = j + 1 := ⟨k - 1, by omega⟩
                                    obtain ⟨pe, hpe⟩ : ∃ pe, es[j]? = some pe := ⟨_, List.getElem?_eq_getElem (by omega)⟩
                                    obtain ⟨pm, hpm⟩ : ∃ x, x = pe.at_ := ⟨_, rfl⟩
                                    have hsY := (hs.on bw).on bY
                                    obtain ⟨bb', oo', cc', e1, _, hbb', hc1⟩ := hsY.at (by rw [flat_len _ 5 spec_len]; omega)
                                    cases e1
                                    have g2 : Y.cell? ⟨bb, oo + j * 5 + 2, none⟩ = some (.int .i64 pm) := by rw [hpm]; exact hc1 _ _ (flat_at Ev.spec 5 spec_len es j pe hpe 2 (by omega))
                                    have ht1 := (okT_iff _).1 (HT.out.2.2 pe (List.mem_of_getElem? hpe))
                                    have ht2 := (okT_iff _).1 (HT.out.2.2 _ (List.mem_of_getElem? HE.out))
                                    simp only at ht2
                                    rw [← hpm] at ht1
                                    have hz := fun W => zdays_any (em - pm) W (by omega) (by omega)
                                    have hww : IntKind.i64.wrap (em - pm) = em - pm := by rw [IntKind.wrap_i64]; omega
                                    have HD := Lib.hid (show dk = hund ((em - pm).tdiv 864000000000) by
                                      rw [HDK.out]
                                      unfold durAt
                                      rw [if_neg (by omega), show k - 1 = j by omega, List.getD_eq_getElem?_getD, List.getD_eq_getElem?_getD, HE.out, hpe, hpm]
                                      rfl)
                                    obtain ⟨fl, hfl⟩ : ∃ x, x = hund ((em - pm).tdiv 864000000000) := ⟨_, rfl⟩
                                    rw [← hfl] at hz HD
                                    have hi2 : (j : Int) < (es.length : Int) := by omega
                                    have hj1 : (k : Int) - 1 = (j : Int) := by omega
                                    have hj0 : (0 : Int) ≤ (j : Int) := by omega
                                    have hw64 : IntKind.i64.wrap (j : Int) = (j : Int) := by rw [IntKind.wrap_i64]; omega
                                    clear hc1 hpe hpm ht1 ht2 hfl hdec hk0 hj
                                    go_upto_region 29 with fail
                                    go_region_held3 (fun w' => w'.cell? ⟨bb, oo + k * 5 + 2, none⟩ = some (.int .i64 em) ∧ w'.cell? ⟨bb, oo + j * 5 + 2, none⟩ = some (.int .i64 pm)) (first | (refine ⟨?_, ?_⟩ <;> with_reducible assumption) | (simp [*, go_sem]; done) | go_keep)
                                      (first | (go_at_call 13; refine (hz _).mono ?_; rintro x Wa ⟨rfl, rfl⟩))
                                    go_wp2_with fail
                                    go_meet
                                    exact ⟨by rw [HD.out], (Below.refl _ _).drew⟩
                                case rest =>
                                  obtain ⟨rfl, bZ⟩ := hcut
                                  have x2 := x2.below bZ x2.lt
                                  have bZ := bw.trans ((bY.trans (bZ.mono bY.size)).mono bw.size)
                                  have hord := order_of (dur_eq es k)
                                  rw [← HDK.out] at hord
                                  have y7 := x2.cell (j := 7) rfl
                                  clear G2 bY
                                  go_wp2
                                  go_roundw
                                  case rel => exact ⟨k + 1, by omega, by go_num, bZ⟩
                                  case measure => simp [intOf]; omega
                            · have r1 := r1.below bw r1.lt
                              have r7 := r7.below bw r7.lt
                              have hres := hres.on bw
                              have b1 := b1.trans (bw.mono b1.size)
                              have hdk : decide (k < es.length) = false := decide_eq_false hlt
                              have e10 := r1.cell (j := 10) rfl
                              have t9 := r7.cell (j := 9) rfl
                              obtain ⟨hb, hhb⟩ : ∃ x, x = a.hd := ⟨_, rfl⟩
                              rw [← hhb] at e10 hdn
                              have HHB := Lib.hid hhb
                              clear hhb
                              rcases hdn with ⟨h, hd0⟩ | ⟨h, hd0⟩
                              · obtain rfl : rp = none := by
                                  rcases hres with ⟨_, h⟩ | ⟨h, _⟩
                                  · exact h
                                  · exact absurd hd0 h
                                subst h
                                clear hd0
                                go_wp2
                                go_ret
                                exact ⟨rfl, b1⟩
                              · obtain ⟨r, hr, hrc⟩ : ∃ r, rp = some ⟨r, 0, none⟩ ∧ wr.cell? ⟨r, 0, none⟩ = some (.float .f64 (hund ((a.da - a.ca).tdiv 864000000000))) := by
                                  rcases hres with ⟨h, _⟩ | ⟨_, h⟩
                                  · exact absurd h hd0
                                  · exact h
                                subst hr
                                subst h
                                have e8 := r1.cell (j := 8) rfl
                                have e19 := r1.cell (j := 19) rfl
                                have hca := (okT_iff _).1 HT.out.1
                                have hda := (okT_iff _).1 (HT.out.2.1 HHB.out.symm)
                                have hz := fun W => zdays_any (a.da - a.ca) W (by omega) (by omega)
                                have hww : IntKind.i64.wrap (a.da - a.ca) = a.da - a.ca := by rw [IntKind.wrap_i64]; omega
                                have hord := order_of (hund_eq ((a.da - a.ca).tdiv 864000000000))
                                obtain ⟨fl, hfl⟩ : ∃ x, x = hund ((a.da - a.ca).tdiv 864000000000) := ⟨_, rfl⟩
                                rw [← hfl] at hz hrc hord
                                clear hfl hd0 hca hda
                                go_upto_region 33 with fail
                                go_region_held3 (fun w' => w'.cell? ⟨gt, 9, none⟩ = some (.pointer (some ⟨r, 0, none⟩)) ∧ w'.cell? ⟨r, 0, none⟩ = some (.float .f64 fl) ∧ w'.cell? ⟨w.heap.size, 19, none⟩ = some (.int .i64 a.da) ∧ w'.cell? ⟨w.heap.size, 8, none⟩ = some (.int .i64 a.ca)) (first | (refine ⟨?_, ?_, ?_, ?_⟩ <;> with_reducible assumption) | (simp [*, go_sem]; done) | go_keep)
                                  (first | (go_at_call 13; refine (hz _).mono ?_; rintro x Wa ⟨rfl, rfl⟩))
                                go_wp2_with fail
                                go_ret
                                exact ⟨rfl, b1.drew⟩

end Go.Proofs.Qxb6628314a

/-
  THE WALK of NewTimeline (10).
-/
import Derived.Test.Qxb6628314aEvs
import Derived.Test.Qxb6628314aDays
import Derived.Deep.DeepCutAuto
import Derived.ArgAppend
namespace Go.Proofs.Qxb6628314a
open Go.RowKit

theorem Try.info54 : (Try.prog.info? 54).map (fun i => (i.zero, i.size, i.bytes)) = some (some (.agg #[.int .i64 0, .string ⟨#[]⟩, .int .u64 0, .int .i64 0, .pointer none, .string ⟨#[]⟩, .string ⟨#[]⟩, .float .f64 0]), 8, 88) := by kernel_rfl

def noEv : Ev := ⟨0, ⟨#[]⟩, 0, ⟨#[]⟩, ⟨#[]⟩⟩
/-- The gap ahead of event i, in days, as a float64's bits. -/
def durAt (es : List Ev) (i : Nat) : Nat := if i = 0 then 0 else hund (((es.getD i noEv).at_ - (es.getD (i - 1) noEv).at_).tdiv 864000000000)
def entAt (es : List Ev) (i : Nat) : List Value := (es.getD i noEv).real ++ [.float .f64 (durAt es i)]
/-- The first k entries' cells. -/
def ents (es : List Ev) (k : Nat) : List Value := (List.range k).flatMap (entAt es)
theorem entAt_len (es : List Ev) (i : Nat) : (entAt es i).length = 8 := rfl
theorem ents_len (es : List Ev) (k : Nat) : (ents es k).length = k * 8 := by unfold ents; rw [flat_len _ 8 (entAt_len es)]; simp
theorem ents_succ (es : List Ev) (k : Nat) : ents es (k + 1) = ents es k ++ entAt es k := by unfold ents; rw [List.range_succ, List.flatMap_append]; simp

/-- What of an appeal the timeline reads. -/
def apL (id sid uid st : ByteArray) (pr : Int) (rsn stm : ByteArray) (ea : Option Addr) (el ec : Nat) (c0 c1 x0 x1 : Int) (dp ap : Option Addr) : List Value :=
  [.string id, .string sid, .string uid, .string st, .int .i64 pr, .string rsn, .string stm, .slice ea el ec, .int .u64 c0, .int .i64 c1, .pointer none, .int .u64 x0, .int .i64 x1, .pointer none, .pointer dp, .pointer ap]
def tlL (id uid st : ByteArray) (c0 c1 l0 l1 : Int) (rp : Option Addr) (v : Value) : List Value :=
  [.string id, .string uid, .string st, .int .u64 c0, .int .i64 c1, .pointer none, .int .u64 l0, .int .i64 l1, .pointer none, .pointer rp, v]

def mk54 (n : Nat) : Array Value := madeCells #[.int .i64 0, .string ⟨#[]⟩, .int .u64 0, .int .i64 0, .pointer none, .string ⟨#[]⟩, .string ⟨#[]⟩, .float .f64 0] (n * 8)
theorem mk54_size (n : Nat) : (mk54 n).size = n * 8 := size_madeCells _ _
theorem make43 (W : World) (n : Nat) (h : n ≤ 1048576) : (Instr.makeSlice 43 (.int .i64 0) (.int .i64 (n : Int))).run Try.prog W = .ok (.slice (some ⟨W.heap.size, 0, none⟩) 0 n) (W.alloc (.cells (mk54 n) 54)) := by
  obtain ⟨i0, hi, hz0, hz1, hz2⟩ := info_parts Try.info54
  have hr := run_make (P := Try.prog) W 43 54 i0 _ Try.underlying43 hi hz0 .i64 .i64 0 n (by omega) (by omega) (by rw [hz2]; omega) (by omega)
  rw [hz1] at hr
  simp only [Int.toNat_natCast, Int.toNat_zero] at hr
  exact hr
theorem run_store_floatT (P : Program) (w : World) (a : Addr) (k : FloatKind) (b : Nat) (m : Mode) : (store a (.float k b) m).run P w = stored P w a (.float k b) m := run_store P w a _ m rfl
attribute [local go_sem] run_store_floatT
theorem size_alloc1 (W : World) (o : Obj) : (W.alloc o).heap.size = W.heap.size + 1 := by simp
theorem cells_row (w : World) (T : TypeId) (L : List Value) : ∀ (j : Nat) (u : Value), L[j]? = some u → (w.alloc (.cells L.toArray T)).cell? ((⟨w.heap.size, 0, none⟩ : Addr).add j) = some u := by
  intro j u hj
  rw [Addr.add_lit]
  simpa using (Row.new w T L).cell hj
theorem Row.notOwn {w : World} {g T base n : Nat} {v : Value} {L M : List Value} (h : Row w g T L) (hT : T ≠ 54) (ho : w.ownsRow base 54 8 v n M) : some g ≠ v.ownBlock := by
  rcases ho.2 with ⟨rfl, _⟩ | ⟨g', cp, cur, rfl, _, hc, _⟩
  · intro e; cases e
  · intro e
    cases e
    unfold Row at h
    rw [hc] at h
    cases h
    exact hT rfl
theorem grownBy_setCell (w : World) (p : Addr) (v : Value) : w.grownBy (w.setCell p v) (some p.block) :=
  ⟨rfl, rfl, rfl, by simp, fun k _ hk => Below.heap_setCell _ _ _ _ (fun e => hk (by rw [e]))⟩
theorem own_put {w : World} {g T base n : Nat} {v : Value} {L M : List Value} (h : Row w g T L) (hT : T ≠ 54) (ho : w.ownsRow base 54 8 v n M) (j : Nat) (u : Value) : (w.setCell ⟨g, j, none⟩ u).ownsRow base 54 8 v n M :=
  ho.kept (grownBy_setCell w ⟨g, j, none⟩ u) (.inr (fun e => Row.notOwn h hT ho e.symm))
def zero45 : List Value := [.string ⟨#[]⟩, .string ⟨#[]⟩, .string ⟨#[]⟩, .int .u64 0, .int .i64 0, .pointer none, .int .u64 0, .int .i64 0, .pointer none, .pointer none, .slice none 0 0]

/-- The resolution: none, or a cell that holds the days. -/
def ResAt (w : World) (dp : Option Addr) (fl : Nat) (rp : Option Addr) : Prop := (dp = none ∧ rp = none) ∨ (dp ≠ none ∧ ∃ r, rp = some ⟨r, 0, none⟩ ∧ w.cell? ⟨r, 0, none⟩ = some (.float .f64 fl))
theorem ResAt.on {w w' : World} {dp rp : Option Addr} {fl : Nat} (h : ResAt w dp fl rp) (hb : Below w.heap.size w w') : ResAt w' dp fl rp := by
  rcases h with h | ⟨h, r, e, h1⟩
  · exact .inl h
  · exact .inr ⟨h, r, e, (hb.cell (World.block_lt_of_cell? w _ h1)).trans h1⟩
theorem ResAt.put {w : World} {g : Nat} {L : List Value} {dp rp : Option Addr} {fl : Nat} (h : ResAt w dp fl rp) (hR : Row w g 45 L) (h0 : ∃ s, L[0]? = some (.string s)) (j : Nat) (u : Value) : ResAt (w.setCell ⟨g, j, none⟩ u) dp fl rp := by
  rcases h with h | ⟨h, r, e, h1⟩
  · exact .inl h
  · obtain ⟨s, h0⟩ := h0
    have hne : r ≠ g := by
      intro e
      subst e
      have := hR.cell h0
      rw [h1] at this
      cases this
    refine .inr ⟨h, r, e, ?_⟩
    rw [World.cell?_setCell_other _ _ _ _ (fun e => hne (congrArg Addr.block e).symm)]
    exact h1
theorem sl_own {w : World} {base e n : Nat} {v : Value} {L : List Value} (h : w.ownsRow base e 8 v n L) : Sl w v n 8 L := by
  have hh := h
  obtain ⟨hl, h | ⟨g', cp, cur, rfl, r⟩⟩ := hh
  · obtain ⟨rfl, rfl⟩ := h
    have : L = [] := by cases L with | nil => rfl | cons => simp at hl
    exact .inl ⟨rfl, rfl, this⟩
  · refine .inr ⟨_, _, rfl, by omega, hl, h.cells rfl⟩

theorem post10 {Q : Ending → World → Prop} {T : Array Value} {W : World} {g : Nat} (id uid st : ByteArray) (c0 c1 l0 l1 : Int) (rp : Option Addr) (v : Value) (hv : ∃ ao n c, v = .slice ao n c) (hT : T[4]? = some (.pointer (some ⟨g, 0, none⟩)))
    (R : Row W g 45 (tlL id uid st c0 c1 l0 l1 rp v)) (hQ : Q (.returned (.agg (tlL id uid st c0 c1 l0 l1 rp v).toArray)) W) : bodyPost Try.prog Try.f10 Q .ret { tmps := T, defers := [] } W := by
  obtain ⟨ao, n, c, rfl⟩ := hv
  have d0 := R.cell (j := 0) rfl
  have d1 := R.cell (j := 1) rfl
  have d2 := R.cell (j := 2) rfl
  have d3 := R.cell (j := 3) rfl
  have d4 := R.cell (j := 4) rfl
  have d5 := R.cell (j := 5) rfl
  have d6 := R.cell (j := 6) rfl
  have d7 := R.cell (j := 7) rfl
  have d8 := R.cell (j := 8) rfl
  have d9 := R.cell (j := 9) rfl
  have d10 := R.cell (j := 10) rfl
  exact bodyPost_ret (v := .agg (tlL id uid st c0 c1 l0 l1 rp (.slice ao n c)).toArray) (by simp [results, Try.results10, go_sem, hT, tlL, d0, d1, d2, d3, d4, d5, d6, d7, d8, d9, d10]) rfl hQ

/-- The newest event's instant, or the filing's. -/
def lastAt (es : List Ev) (ca : Int) : Int := if es.length = 0 then ca else (es.getD (es.length - 1) noEv).at_
/-- What NewTimeline answers. -/
def TlPost (id uid st : ByteArray) (ca da : Int) (dp : Option Addr) (es : List Ev) (w : World) (x : Ending) (w' : World) : Prop :=
  ∃ v rp, x = .returned (.agg (tlL id uid st (ca % 1000000000) (ca / 1000000000) (lastAt es ca % 1000000000) (lastAt es ca / 1000000000) rp v).toArray) ∧ Sl w' v es.length 8 (ents es es.length) ∧ ResAt w' dp (hund ((da - ca).tdiv 864000000000)) rp ∧ Below w.heap.size w w'

set_option maxRecDepth 20000 in
set_option maxHeartbeats 8000000 in
theorem timeline_one (id sid uid st : ByteArray) (pr : Int) (rsn stm : ByteArray) (ea : Option Addr) (el ec : Nat) (c0 c1 x0 x1 : Int) (dp ap : Option Addr) (ge : Nat) (es : List Ev) (w : World) (ca da : Int)
    (hc0 : Hid (c0 = ca % 1000000000)) (hc1 : Hid (c1 = ca / 1000000000)) (hca : -2305843009213693952 ≤ ca ∧ ca ≤ 2305843009213693952)
    (hdec : dp = none ∨ ∃ d, dp = some ⟨d, 0, none⟩ ∧ w.cell? ⟨d, 6, none⟩ = some (.int .u64 (da % 1000000000)) ∧ w.cell? ⟨d, 7, none⟩ = some (.int .i64 (da / 1000000000)) ∧ w.cell? ⟨d, 8, none⟩ = some (.pointer none) ∧ -2305843009213693952 ≤ da ∧ da ≤ 2305843009213693952)
    (hl : es.length ≤ 1048576) (htm : ∀ e ∈ es, -2305843009213693952 ≤ e.at_ ∧ e.at_ ≤ 2305843009213693952) (hge : Row w ge 52 (es.flatMap Ev.real)) :
    Calls Try.prog 10 #[.agg (apL id sid uid st pr rsn stm ea el ec c0 c1 x0 x1 dp ap).toArray, .slice (some ⟨ge, 0, none⟩) es.length es.length] w (TlPost id uid st ca da dp es w) := by
  obtain ⟨i0, hi, hi0, hi1', hi2'⟩ := info_parts Try.info54
  have hmk := fun W => make43 W es.length hl
  unfold apL
  go_enter Try.func10, Try.ntmps10
  go_upto_region 1 with fail
  obtain ⟨W1, hW1⟩ : ∃ W, W = (w.alloc (.cells (apL id sid uid st pr rsn stm ea el ec c0 c1 x0 x1 dp ap).toArray 38)).alloc (.cells zero45.toArray 45) := ⟨_, rfl⟩
  have r1 : Row W1 w.heap.size 38 (apL id sid uid st pr rsn stm ea el ec c0 c1 x0 x1 dp ap) := by rw [hW1]; exact (Row.new w 38 (apL id sid uid st pr rsn stm ea el ec c0 c1 x0 x1 dp ap)).alloc _
  have r2 : Row W1 (w.heap.size + 1) 45 zero45 := by
    have := Row.new (w.alloc (.cells (apL id sid uid st pr rsn stm ea el ec c0 c1 x0 x1 dp ap).toArray 38)) 45 zero45
    rw [hW1]
    simpa using this
  have b1 : Below w.heap.size w W1 := by rw [hW1]; exact ((Below.refl _ _).alloc (Nat.le_refl _) _).alloc (by simp) _
  unfold apL zero45 at hW1
  rw [← hW1]
  clear hW1
  have hz1 : w.heap.size < W1.heap.size := r1.lt
  have hz3 : w.heap.size + 1 < W1.heap.size := r2.lt
  go_cut [0, 5] (fun _ p wc => ∃ g gs, p = .pointer (some ⟨g, 0, none⟩) ∧ Row wc g 45 (tlL id uid st c0 c1 c0 c1 none (.slice (some ⟨gs, 0, none⟩) 0 es.length)) ∧ wc.ownsRow W1.heap.size 54 8 (.slice (some ⟨gs, 0, none⟩) 0 es.length) 0 [] ∧ Below W1.heap.size W1 wc ∧ W1.heap.size ≤ g ∧ g ≠ gs)
  case first =>
    have n1 := Nat.ne_of_gt hz1
    have n2 := Nat.ne_of_lt hz1
    have q0 := r1.cell (j := 0) rfl
    have q2 := r1.cell (j := 2) rfl
    have q3 := r1.cell (j := 3) rfl
    have q8 := r1.cell (j := 8) rfl
    have q9 := r1.cell (j := 9) rfl
    have q10 := r1.cell (j := 10) rfl
    go_region_held3 (fun w' => w'.cell? ⟨w.heap.size, 0, none⟩ = some (.string id) ∧ w'.cell? ⟨w.heap.size, 2, none⟩ = some (.string uid) ∧ w'.cell? ⟨w.heap.size, 3, none⟩ = some (.string st) ∧ w'.cell? ⟨w.heap.size, 8, none⟩ = some (.int .u64 c0) ∧ w'.cell? ⟨w.heap.size, 9, none⟩ = some (.int .i64 c1) ∧ w'.cell? ⟨w.heap.size, 10, none⟩ = some (.pointer none)) (first | (refine ⟨?_, ?_, ?_, ?_, ?_, ?_⟩ <;> with_reducible assumption) | (simp [*, go_sem]; done) | go_keep) (fail)
    · go_wp2_with fail
      go_meet
      refine ⟨W1.heap.size + 1, W1.heap.size, rfl, ?_, ?_, ?_, by omega, by omega⟩
      · have := Row.new (W1.alloc (.cells (mk54 es.length) 54)) 45 (tlL id uid st c0 c1 c0 c1 none (.slice (some ⟨W1.heap.size, 0, none⟩) 0 es.length))
        rw [size_alloc1] at this
        exact this
      · exact (World.ownsRow_made W1 (mk54 es.length) es.length (Nat.le_refl _) (by unfold maxLen; omega) (mk54_size _)).alloc _
      · exact (((Below.refl _ _).alloc (Nat.le_refl _) _).alloc (by simp) _).drew
    · go_wp2_with fail
      go_meet
      refine ⟨W1.heap.size, W1.heap.size + 1, rfl, ?_, ?_, ?_, by omega, by omega⟩
      · exact (Row.new W1 45 (tlL id uid st c0 c1 c0 c1 none (.slice (some ⟨W1.heap.size + 1, 0, none⟩) 0 es.length))).alloc _
      · have := World.ownsRow_made (base := W1.heap.size) (e := 54) (W1.alloc (.cells (tlL id uid st c0 c1 c0 c1 none (.slice (some ⟨W1.heap.size + 1, 0, none⟩) 0 es.length)).toArray 45)) (mk54 es.length) es.length (by simp) (by unfold maxLen; omega) (mk54_size _)
        rw [size_alloc1] at this
        exact this
      · exact (((Below.refl _ _).alloc (Nat.le_refl _) _).alloc (by simp) _).drew
  case rest =>
    obtain ⟨g, gs, rfl, rg, hown, bw, hg, _⟩ := hcut
    have hge1 := hge.below b1 hge.lt
    clear hmk
    obtain ⟨V0, hV0⟩ : ∃ V, V = wc := ⟨_, rfl⟩
    subst hV0
    go_wp2
    go_loopw [26] (fun i wr => ∃ (k : Nat) (v : Value) (l0 l1 : Int), k ≤ es.length ∧ i = .int .i64 k ∧ Row wr g 45 (tlL id uid st c0 c1 l0 l1 none v) ∧ wr.ownsRow W1.heap.size 54 8 v k (ents es k) ∧ Hid (l0 = if k = 0 then c0 else (es.getD (k - 1) noEv).at_ % 1000000000) ∧ Hid (l1 = if k = 0 then c1 else (es.getD (k - 1) noEv).at_ / 1000000000) ∧ Below W1.heap.size W1 wr) (fun i _ => es.length - (intOf i).toNat)
    case atStart => exact ⟨0, _, c0, c1, Nat.zero_le _, rfl, rg, hown, rfl, rfl, bw⟩
    case round =>
      clear rg hown bw
      obtain ⟨k, v, l0, l1, hk, rfl, rg, hown, HL0, HL1, bw⟩ := hrel
      have hgr := hge1.below bw hge1.lt
      by_cases hlt : k < es.length
      · obtain ⟨e, he⟩ : ∃ e, es[k]? = some e := ⟨_, List.getElem?_eq_getElem hlt⟩
        have hq := fun i (hi : i < 7) => flat_at Ev.real 7 real_len es k e he i hi
        have g0 := hgr.cell (hq 0 (by omega))
        have g1 := hgr.cell (hq 1 (by omega))
        have g2 := hgr.cell (hq 2 (by omega))
        have g3 := hgr.cell (hq 3 (by omega))
        have g4 := hgr.cell (hq 4 (by omega))
        have g5 := hgr.cell (hq 5 (by omega))
        have g6 := hgr.cell (hq 6 (by omega))
        simp only [Nat.add_zero] at g0
        have hi1 : (k : Int) < (es.length : Int) := by omega
        obtain ⟨en, es1, em, et, eu⟩ := e
        have g0' : wr.cell? ⟨ge, k * 7, none⟩ = some (.int .i64 en) := g0
        have g1' : wr.cell? ⟨ge, k * 7 + 1, none⟩ = some (.string es1) := g1
        have g2' : wr.cell? ⟨ge, k * 7 + 2, none⟩ = some (.int .u64 (em % 1000000000)) := g2
        have g3' : wr.cell? ⟨ge, k * 7 + 3, none⟩ = some (.int .i64 (em / 1000000000)) := g3
        have g4' : wr.cell? ⟨ge, k * 7 + 4, none⟩ = some (.pointer none) := g4
        have g5' : wr.cell? ⟨ge, k * 7 + 5, none⟩ = some (.string et) := g5
        have g6' : wr.cell? ⟨ge, k * 7 + 6, none⟩ = some (.string eu) := g6
        obtain ⟨a, ha⟩ : ∃ a, a = em % 1000000000 := ⟨_, rfl⟩
        obtain ⟨b, hb⟩ : ∃ b, b = em / 1000000000 := ⟨_, rfl⟩
        rw [← ha] at g2'
        rw [← hb] at g3'
        have HE := Lib.hid he
        have HA := Lib.hid ha
        have HB := Lib.hid hb
        clear g0 g1 g2 g3 g4 g5 g6 hq ha hb he
        go_upto_if 34 with fail
        obtain ⟨X, hX⟩ : ∃ W, W = (wr.alloc (.cells #[.int .i64 en, .string es1, .int .u64 a, .int .i64 b, .pointer none, .string et, .string eu] 52)).alloc (.cells #[.int .i64 en, .string es1, .int .u64 a, .int .i64 b, .pointer none, .string et, .string eu, .float .f64 0] 54) := ⟨_, rfl⟩
        rw [← hX]
        have x1 : Row X wr.heap.size 52 [.int .i64 en, .string es1, .int .u64 a, .int .i64 b, .pointer none, .string et, .string eu] := by rw [hX]; exact (Row.new wr 52 [.int .i64 en, .string es1, .int .u64 a, .int .i64 b, .pointer none, .string et, .string eu]).alloc _
        have x2 : Row X (wr.heap.size + 1) 54 [.int .i64 en, .string es1, .int .u64 a, .int .i64 b, .pointer none, .string et, .string eu, .float .f64 0] := by
          have := Row.new (wr.alloc (.cells #[.int .i64 en, .string es1, .int .u64 a, .int .i64 b, .pointer none, .string et, .string eu] 52)) 54 [.int .i64 en, .string es1, .int .u64 a, .int .i64 b, .pointer none, .string et, .string eu, .float .f64 0]
          rw [hX]
          simpa using this
        have bX : Below wr.heap.size wr X := by rw [hX]; exact ((Below.refl _ _).alloc (Nat.le_refl _) _).alloc (by simp) _
        clear hX
        go_cut [8] (fun p wc => p = .pointer (some ⟨wr.heap.size + 1, 0, none⟩) ∧ Row wc wr.heap.size 52 [.int .i64 en, .string es1, .int .u64 a, .int .i64 b, .pointer none, .string et, .string eu] ∧ Row wc (wr.heap.size + 1) 54 [.int .i64 en, .string es1, .int .u64 a, .int .i64 b, .pointer none, .string et, .string eu, .float .f64 (durAt es k)] ∧ Below wr.heap.size wr wc)
        case first =>
          by_cases hk0 : k = 0
          · have hdec : decide (0 < k) = false := decide_eq_false (by omega)
            rw [hdec]
            have HD := Lib.hid (show durAt es k = 0 by unfold durAt; rw [if_pos hk0])
            clear hk0 hdec
            go_wp2
            go_meet
            refine ⟨rfl, x1, ?_, bX⟩
            rw [HD.out]
            exact x2
          · have hdec : decide (0 < k) = true := decide_eq_true (by omega)
            rw [hdec]
            obtain ⟨j, rfl⟩ : ∃ j, k = j + 1 := ⟨k - 1, by omega⟩
            obtain ⟨pe, hpe⟩ : ∃ pe, es[j]? = some pe := ⟨_, List.getElem?_eq_getElem (by omega)⟩
            have hq := fun i (hi : i < 7) => flat_at Ev.real 7 real_len es j pe hpe i hi
            have hgX := hgr.below bX hgr.lt
            obtain ⟨pa, hpa⟩ : ∃ x, x = pe.at_ % 1000000000 := ⟨_, rfl⟩
            obtain ⟨pb, hpb⟩ : ∃ x, x = pe.at_ / 1000000000 := ⟨_, rfl⟩
            have y2 : X.cell? ⟨ge, j * 7 + 2, none⟩ = some (.int .u64 pa) := by rw [hpa]; exact hgX.cell (hq 2 (by omega))
            have y3 : X.cell? ⟨ge, j * 7 + 3, none⟩ = some (.int .i64 pb) := by rw [hpb]; exact hgX.cell (hq 3 (by omega))
            have y4 : X.cell? ⟨ge, j * 7 + 4, none⟩ = some (.pointer none) := hgX.cell (hq 4 (by omega))
            have ht1 := htm pe (List.mem_of_getElem? hpe)
            have ht2 := htm ⟨en, es1, em, et, eu⟩ (List.mem_of_getElem? HE.out)
            have ha' := HA.out
            have hb' := HB.out
            simp only at ht2
            have hsub := fun W => sub_any a b pa pb W (by omega) (by omega) (by omega) (by omega) (by omega) (by omega) (by omega) (by omega)
            have hdd : (b - pb) * 1000000000 + (a - pa) = em - pe.at_ := by omega
            have hdays := fun W => days_any ((b - pb) * 1000000000 + (a - pa)) W (by omega) (by omega)
            have HD := Lib.hid (show durAt es (j + 1) = hund (((b - pb) * 1000000000 + (a - pa)).tdiv 864000000000) by
              rw [hdd]
              unfold durAt
              rw [if_neg (by omega), Nat.add_sub_cancel, List.getD_eq_getElem?_getD, List.getD_eq_getElem?_getD, HE.out, hpe]
              rfl)
            obtain ⟨dd, hdd'⟩ : ∃ x, x = (b - pb) * 1000000000 + (a - pa) := ⟨_, rfl⟩
            rw [← hdd'] at hsub hdays HD
            obtain ⟨fl, hfl⟩ : ∃ x, x = hund (dd.tdiv 864000000000) := ⟨_, rfl⟩
            rw [← hfl] at hdays HD
            have z2 := x1.cell (j := 2) rfl
            have z3 := x1.cell (j := 3) rfl
            have z4 := x1.cell (j := 4) rfl
            have v7 := x2.cell (j := 7) rfl
            have vf7 := x2.frozen 7
            have l1' := x1.lt
            have l2' := x2.lt
            have l3' := hgX.lt
            have hi2 : (j : Int) < (es.length : Int) := by omega
            have hj1 : ((j + 1 : Nat) : Int) - 1 = (j : Int) := by omega
            have hj0 : (0 : Int) ≤ (j : Int) := by omega
            have hw64 : IntKind.i64.wrap (j : Int) = (j : Int) := by rw [IntKind.wrap_i64]; omega
            clear hq hpe hpa hpb ht1 ht2 ha' hb' hdd hdd' hfl hdec hk0
            go_upto_region 7 with fail
            go_region_held3 (fun w' => w'.cell? ⟨wr.heap.size, 2, none⟩ = some (.int .u64 a) ∧ w'.cell? ⟨wr.heap.size, 3, none⟩ = some (.int .i64 b) ∧ w'.cell? ⟨wr.heap.size, 4, none⟩ = some (.pointer none) ∧ w'.cell? ⟨ge, j * 7 + 2, none⟩ = some (.int .u64 pa) ∧ w'.cell? ⟨ge, j * 7 + 3, none⟩ = some (.int .i64 pb) ∧ w'.cell? ⟨ge, j * 7 + 4, none⟩ = some (.pointer none)) (first | (refine ⟨?_, ?_, ?_, ?_, ?_, ?_⟩ <;> with_reducible assumption) | (simp [*, go_sem]; done) | go_keep)
              (first | (go_at_call 18; refine (hsub X.drew).mono ?_; rintro x Wa ⟨rfl, hba⟩; have p2 := (hba.cell (p := ⟨wr.heap.size, 2, none⟩) l1').trans z2; have p3 := (hba.cell (p := ⟨wr.heap.size, 3, none⟩) l1').trans z3; have p4 := (hba.cell (p := ⟨wr.heap.size, 4, none⟩) l1').trans z4; have s2 := (hba.cell (p := ⟨ge, j * 7 + 2, none⟩) l3').trans y2; have s3 := (hba.cell (p := ⟨ge, j * 7 + 3, none⟩) l3').trans y3; have s4 := (hba.cell (p := ⟨ge, j * 7 + 4, none⟩) l3').trans y4; have u7 := (hba.cell (p := ⟨wr.heap.size + 1, 7, none⟩) l2').trans v7; have uf7 := (hba.frozen (p := ⟨wr.heap.size + 1, 7, none⟩) l2').trans vf7)
                     | (go_at_call 17; refine (hdays _).mono ?_; rintro x Wb ⟨rfl, rfl⟩))
            have bA : Below X.heap.size X Wa := (show Below X.heap.size X X.drew from (Below.refl _ _).drew).trans hba
            have x1' := x1.below bA x1.lt
            have x2' := x2.below bA x2.lt
            have bB := bX.trans (bA.mono bX.size)
            go_wp2_with fail
            go_meet
            refine ⟨rfl, x1'.other ⟨wr.heap.size + 1, 7, none⟩ (by show wr.heap.size + 1 ≠ wr.heap.size; omega) _, ?_, bB.setCell (show wr.heap.size ≤ wr.heap.size + 1 by omega) _⟩
            rw [HD.out]
            exact x2'.set 7 _
        case rest =>
          clear x1 x2 bX
          obtain ⟨rfl, x1, x2, bC⟩ := hcut
          have hown : wc.ownsRow W1.heap.size 54 8 v k (ents es k) := hown.kept ⟨bC.os, bC.tape, bC.output, bC.size, fun k hk _ => bC.block k hk⟩ (row := none) (by cases h : v.ownBlock <;> simp)
          have hgw0 := rg.lt
          have rg := rg.below bC rg.lt
          have bw := bw.trans (bC.mono bw.size)
          obtain ⟨va, vc, rfl⟩ : ∃ ao cp, v = .slice ao k cp := by
            rcases hown.2 with ⟨rfl, h0⟩ | ⟨g', cp, cur, rfl, _⟩
            · subst h0; exact ⟨_, _, rfl⟩
            · exact ⟨_, _, rfl⟩
          obtain ⟨dk, hdk⟩ : ∃ x, x = durAt es k := ⟨_, rfl⟩
          rw [← hdk] at x2
          have HN := Lib.hid (show ents es k ++ [.int .i64 en, .string es1, .int .u64 a, .int .i64 b, .pointer none, .string et, .string eu, .float .f64 dk] = ents es (k + 1) by
            rw [ents_succ]
            unfold entAt
            rw [List.getD_eq_getElem?_getD, HE.out, hdk, HA.out, HB.out]
            rfl)
          clear hdk
          have e0 := x2.cell (j := 0) rfl
          have e1 := x2.cell (j := 1) rfl
          have e2 := x2.cell (j := 2) rfl
          have e3 := x2.cell (j := 3) rfl
          have e4 := x2.cell (j := 4) rfl
          have e5 := x2.cell (j := 5) rfl
          have e6 := x2.cell (j := 6) rfl
          have e7 := x2.cell (j := 7) rfl
          have d2 := x1.cell (j := 2) rfl
          have d3 := x1.cell (j := 3) rfl
          have d4 := x1.cell (j := 4) rfl
          have t10 := rg.cell (j := 10) rfl
          have hgl := rg.lt
          have hw1 := bw.size
          go_wp2_with (at_builtin; refine wpList_append_own _ rfl _ _ 43 rfl W1.heap.size 54 i0 _ 8 88 Try.underlying43 hi hi0 hi1' hi2' rfl (by decide) _ _ _ rfl (hown.alloc _) ⟨wc.heap.size, 0, none⟩ 1 1 [.int .i64 en, .string es1, .int .u64 a, .int .i64 b, .pointer none, .string et, .string eu, .float .f64 dk] rfl rfl (cells_row _ _ _) (by intro u' hu'; simp at hu'; rcases hu' with rfl | rfl | rfl | rfl | rfl | rfl | rfl | rfl <;> rfl) (by unfold maxLen; omega) (by omega) (by simp; omega) ?_)
          intro v1 w6 hown6 hg6 _
          have bw6 : Below W1.heap.size W1 w6 := (bw.alloc (by omega) _).grown hg6 (by simp; omega) (fun k hk => (hown.lt k hk).1)
          have rg6 := (rg.alloc _).grown hg6 (Row.notOwn rg (by decide) hown)
          have x16 := (x1.alloc _).grown hg6 (Row.notOwn x1 (by decide) hown)
          rw [HN.out] at hown6
          obtain ⟨va', vc', rfl⟩ : ∃ ao cp, v1 = .slice ao (k + 1) cp := by
            rcases hown6.2 with ⟨rfl, h0⟩ | ⟨g', cp, cur, rfl, _⟩
            · omega
            · exact ⟨_, _, rfl⟩
          have y6 := rg6.cell (j := 6) rfl
          have y7 := rg6.cell (j := 7) rfl
          have y8 := rg6.cell (j := 8) rfl
          have y10 := rg6.cell (j := 10) rfl
          have yf6 := rg6.frozen 6
          have yf7 := rg6.frozen 7
          have yf8 := rg6.frozen 8
          have yf10 := rg6.frozen 10
          have k2 := x16.cell (j := 2) rfl
          have k3 := x16.cell (j := 3) rfl
          have k4 := x16.cell (j := 4) rfl
          have hgw : g ≠ wr.heap.size := Nat.ne_of_lt hgw0
          have HL0' := Lib.hid (show a = if k + 1 = 0 then c0 else (es.getD (k + 1 - 1) noEv).at_ % 1000000000 by
            rw [if_neg (by omega), Nat.add_sub_cancel, List.getD_eq_getElem?_getD, HE.out, HA.out]; rfl)
          have HL1' := Lib.hid (show b = if k + 1 = 0 then c1 else (es.getD (k + 1 - 1) noEv).at_ / 1000000000 by
            rw [if_neg (by omega), Nat.add_sub_cancel, List.getD_eq_getElem?_getD, HE.out, HB.out]; rfl)
          go_wp2
          go_roundw
          case rel =>
            have q1 := rg6.set 10 (.slice va' (k + 1) vc')
            have q2 := q1.set 6 (.int .u64 a)
            have q3 := q2.set 7 (.int .i64 b)
            have o1 := own_put rg6 (by decide) hown6 10 (.slice va' (k + 1) vc')
            have o2 := own_put q1 (by decide) o1 6 (.int .u64 a)
            have o3 := own_put q2 (by decide) o2 7 (.int .i64 b)
            have o4 := own_put q3 (by decide) o3 8 (.pointer none)
            exact ⟨k + 1, _, a, b, by omega, by go_num, q3.set 8 _, o4, HL0', HL1', (((bw6.setCell hg _).setCell hg _).setCell hg _).setCell hg _⟩
          case measure => simp [intOf]; omega
      · have hdk : decide (k < es.length) = false := decide_eq_false hlt
        have R1 := r1.below bw r1.lt
        have R2 := r2.below bw r2.lt
        obtain ⟨dv, hdv⟩ : ∃ x, x = dp := ⟨_, rfl⟩
        have q14 : wr.cell? ⟨w.heap.size, 14, none⟩ = some (.pointer dv) := by rw [hdv]; exact R1.cell (j := 14) rfl
        have HDV := Lib.hid hdv
        clear hdv
        have hR2g : ¬ g = w.heap.size + 1 := by omega
        have hke : k = es.length := by omega
        have HK := Lib.hid hke
        clear hke
        go_upto_if 58 with fail
        obtain ⟨V1, hV1⟩ : ∃ V, V = wr := ⟨_, rfl⟩
        subst hV1
        go_cut [9] (fun _ wc => ∃ rp, Row wc g 45 (tlL id uid st c0 c1 l0 l1 rp v) ∧ wc.ownsRow W1.heap.size 54 8 v k (ents es k) ∧ Row wc (w.heap.size + 1) 45 zero45 ∧ ResAt wc dp (hund ((da - ca).tdiv 864000000000)) rp ∧ Below W1.heap.size W1 wc)
        case first =>
          rcases hdec with hdn | ⟨d, hds, D6, D7, D8, hda0, hda1⟩
          · obtain rfl : dv = none := by rw [HDV.out, hdn]
            clear hdn
            go_wp2
            go_meet
            exact ⟨none, rg, hown, R2, .inl ⟨HDV.out.symm, rfl⟩, bw⟩
          · obtain rfl : dv = some ⟨d, 0, none⟩ := by rw [HDV.out, hds]
            have HDS := Lib.hid hds
            clear hds
            obtain ⟨hca0, hca1⟩ := hca
            have hdl := World.block_lt_of_cell? w _ D6
            have D6 := (bw.cell (p := ⟨d, 6, none⟩) (by show d < W1.heap.size; have := b1.size; simp only at hdl; omega)).trans ((b1.cell (p := ⟨d, 6, none⟩) hdl).trans D6)
            have D7 := (bw.cell (p := ⟨d, 7, none⟩) (by show d < W1.heap.size; have := b1.size; simp only at hdl; omega)).trans ((b1.cell (p := ⟨d, 7, none⟩) hdl).trans D7)
            have D8 := (bw.cell (p := ⟨d, 8, none⟩) (by show d < W1.heap.size; have := b1.size; simp only at hdl; omega)).trans ((b1.cell (p := ⟨d, 8, none⟩) hdl).trans D8)
            have q8 := R1.cell (j := 8) rfl
            have q9 := R1.cell (j := 9) rfl
            have q10 := R1.cell (j := 10) rfl
            obtain ⟨d0, hd0⟩ : ∃ x, x = da % 1000000000 := ⟨_, rfl⟩
            obtain ⟨d1, hd1⟩ : ∃ x, x = da / 1000000000 := ⟨_, rfl⟩
            rw [← hd0] at D6
            rw [← hd1] at D7
            have e0 := hc0.out
            have e1 := hc1.out
            have hsub := fun W => sub_any d0 d1 c0 c1 W (by omega) (by omega) (by omega) (by omega) (by omega) (by omega) (by omega) (by omega)
            have hdd : (d1 - c1) * 1000000000 + (d0 - c0) = da - ca := by omega
            have hdays := fun W => days_any ((d1 - c1) * 1000000000 + (d0 - c0)) W (by omega) (by omega)
            have HF := Lib.hid (show hund ((da - ca).tdiv 864000000000) = hund (((d1 - c1) * 1000000000 + (d0 - c0)).tdiv 864000000000) by rw [hdd])
            obtain ⟨dd, hdd'⟩ : ∃ x, x = (d1 - c1) * 1000000000 + (d0 - c0) := ⟨_, rfl⟩
            rw [← hdd'] at hsub hdays HF
            obtain ⟨fl, hfl⟩ : ∃ x, x = hund (dd.tdiv 864000000000) := ⟨_, rfl⟩
            rw [← hfl] at hdays HF
            have m1 := R1.lt
            have m2 : d < V1.heap.size := by have := b1.size; have := bw.size; simp only at hdl; omega
            have n1 := Nat.ne_of_gt m1
            have n2 := Nat.ne_of_lt m1
            have n3 := Nat.ne_of_gt m2
            have n4 := Nat.ne_of_lt m2
            clear e0 e1 hdd hdd' hfl hd0 hd1
            go_upto_region 12 with fail
            go_cut [9] (fun p wc => ∃ r, p = .pointer (some ⟨r, 0, none⟩) ∧ wc.cell? ⟨r, 0, none⟩ = some (.float .f64 fl) ∧ V1.heap.size ≤ r ∧ Below V1.heap.size V1 wc)
            case first =>
              go_region_held3 (fun w' => w'.cell? ⟨w.heap.size, 8, none⟩ = some (.int .u64 c0) ∧ w'.cell? ⟨w.heap.size, 9, none⟩ = some (.int .i64 c1) ∧ w'.cell? ⟨w.heap.size, 10, none⟩ = some (.pointer none) ∧ w'.cell? ⟨w.heap.size, 14, none⟩ = some (.pointer (some ⟨d, 0, none⟩)) ∧ w'.cell? ⟨d, 6, none⟩ = some (.int .u64 d0) ∧ w'.cell? ⟨d, 7, none⟩ = some (.int .i64 d1) ∧ w'.cell? ⟨d, 8, none⟩ = some (.pointer none)) (first | (refine ⟨?_, ?_, ?_, ?_, ?_, ?_, ?_⟩ <;> with_reducible assumption) | (simp [*, go_sem]; done) | go_keep)
                (first | (go_at_call 18; refine (hsub V1.drew).mono ?_; rintro x Wa ⟨rfl, hba⟩; have p8 := (hba.cell (p := ⟨w.heap.size, 8, none⟩) m1).trans q8; have p9 := (hba.cell (p := ⟨w.heap.size, 9, none⟩) m1).trans q9; have p10 := (hba.cell (p := ⟨w.heap.size, 10, none⟩) m1).trans q10; have p14 := (hba.cell (p := ⟨w.heap.size, 14, none⟩) m1).trans q14; have s6 := (hba.cell (p := ⟨d, 6, none⟩) m2).trans D6; have s7 := (hba.cell (p := ⟨d, 7, none⟩) m2).trans D7; have s8 := (hba.cell (p := ⟨d, 8, none⟩) m2).trans D8; have hbs := hba.size)
                       | (go_at_call 18; refine (hsub (V1.drew.alloc (.cells #[.float .f64 0] 23))).mono ?_; rintro x Wa ⟨rfl, hba'⟩; have hba : Below V1.heap.size V1.drew Wa := ((Below.refl _ _).alloc (Nat.le_refl _) _).trans (hba'.mono (by simp)); have p8 := (hba.cell (p := ⟨w.heap.size, 8, none⟩) m1).trans q8; have p9 := (hba.cell (p := ⟨w.heap.size, 9, none⟩) m1).trans q9; have p10 := (hba.cell (p := ⟨w.heap.size, 10, none⟩) m1).trans q10; have p14 := (hba.cell (p := ⟨w.heap.size, 14, none⟩) m1).trans q14; have s6 := (hba.cell (p := ⟨d, 6, none⟩) m2).trans D6; have s7 := (hba.cell (p := ⟨d, 7, none⟩) m2).trans D7; have s8 := (hba.cell (p := ⟨d, 8, none⟩) m2).trans D8; have hbs := hba.size; have r9 : Row Wa V1.heap.size 23 [.float .f64 0] := (Row.new V1.drew 23 [.float .f64 0]).below hba' (by simp); have k0 := r9.cell (j := 0) rfl; have kf0 := r9.frozen 0)
                       | (go_at_call 17; refine (hdays _).mono ?_; rintro x Wb ⟨rfl, rfl⟩))
              · have D1 : Below V1.heap.size V1 Wa := (show Below V1.heap.size V1 V1.drew from (Below.refl _ _).drew).trans hba
                go_wp2_with fail
                go_meet
                exact ⟨_, rfl, (Row.new Wa 23 [.float .f64 fl]).cell (j := 0) rfl, D1.size, D1.alloc D1.size _⟩
              · have D1 : Below V1.heap.size V1 Wa := (show Below V1.heap.size V1 V1.drew from (Below.refl _ _).drew).trans hba
                go_wp2_with fail
                go_meet
                exact ⟨_, rfl, (Row.new Wa 23 [.float .f64 fl]).cell (j := 0) rfl, D1.size, D1.alloc D1.size _⟩
              · have D1 : Below V1.heap.size V1 Wa := (show Below V1.heap.size V1 V1.drew from (Below.refl _ _).drew).trans hba
                go_wp2_with fail
                go_meet
                exact ⟨_, rfl, (r9.set 0 (.float .f64 fl)).cell (j := 0) rfl, Nat.le_refl _, D1.setCell (Nat.le_refl _) _⟩
            case rest =>
              obtain ⟨r, rfl, hr, hrl, bq⟩ := hcut
              have hown : wc.ownsRow W1.heap.size 54 8 v k (ents es k) := hown.kept ⟨bq.os, bq.tape, bq.output, bq.size, fun k hk _ => bq.block k hk⟩ (row := none) (by cases h : v.ownBlock <;> simp)
              have hgl := rg.lt
              have rg := rg.below bq rg.lt
              have R2 := R2.below bq R2.lt
              have bw := bw.trans (bq.mono bw.size)
              have kg9 := rg.cell (j := 9) rfl
              have kgf9 := rg.frozen 9
              have hgr' : r ≠ g := by omega
              clear q14 D6 D7 D8 q8 q9 q10 hsub hdays
              go_wp2
              go_meet
              refine ⟨some ⟨r, 0, none⟩, rg.set 9 _, own_put rg (by decide) hown 9 _, R2.other ⟨g, 9, none⟩ hR2g _, .inr ⟨?_, r, rfl, ?_⟩, bw.setCell hg _⟩
              · rw [HDS.out]; simp
              · rw [World.cell?_setCell_other _ _ _ _ (fun e => hgr' (congrArg Addr.block e).symm), HF.out]; exact hr
        case rest =>
          clear rg hown bw R1 R2 q14 hdec
          obtain ⟨rp, rg, hown, R2, hres, bw⟩ := hcut
          obtain ⟨va, vc, rfl⟩ : ∃ ao cp, v = .slice ao k cp := by
            rcases hown.2 with ⟨rfl, h0⟩ | ⟨g', cp, cur, rfl, _⟩
            · subst h0; exact ⟨_, _, rfl⟩
            · exact ⟨_, _, rfl⟩
          have k0 := rg.cell (j := 0) rfl
          have k1 := rg.cell (j := 1) rfl
          have k2 := rg.cell (j := 2) rfl
          have k3 := rg.cell (j := 3) rfl
          have k4 := rg.cell (j := 4) rfl
          have k5 := rg.cell (j := 5) rfl
          have k6 := rg.cell (j := 6) rfl
          have k7 := rg.cell (j := 7) rfl
          have k8 := rg.cell (j := 8) rfl
          have k9 := rg.cell (j := 9) rfl
          have k10 := rg.cell (j := 10) rfl
          have l00 := R2.cell (j := 0) rfl
          have lf0 := R2.frozen 0
          have l01 := R2.cell (j := 1) rfl
          have lf1 := R2.frozen 1
          have l02 := R2.cell (j := 2) rfl
          have lf2 := R2.frozen 2
          have l03 := R2.cell (j := 3) rfl
          have lf3 := R2.frozen 3
          have l04 := R2.cell (j := 4) rfl
          have lf4 := R2.frozen 4
          have l05 := R2.cell (j := 5) rfl
          have lf5 := R2.frozen 5
          have l06 := R2.cell (j := 6) rfl
          have lf6 := R2.frozen 6
          have l07 := R2.cell (j := 7) rfl
          have lf7 := R2.frozen 7
          have l08 := R2.cell (j := 8) rfl
          have lf8 := R2.frozen 8
          have l09 := R2.cell (j := 9) rfl
          have lf9 := R2.frozen 9
          have l10 := R2.cell (j := 10) rfl
          have lf10 := R2.frozen 10
          have n1 : ¬ g = w.heap.size + 1 := hR2g
          have n2 : ¬ w.heap.size + 1 = g := fun e => hR2g e.symm
          go_wp2
          have hge' : w.heap.size ≤ w.heap.size + 1 := by omega
          have bw := b1.trans (bw.mono b1.size)
          have q1 := R2.set 0 (.string id)
          have q2 := q1.set 1 (.string uid)
          have q3 := q2.set 2 (.string st)
          have q4 := q3.set 3 (.int .u64 c0)
          have q5 := q4.set 4 (.int .i64 c1)
          have q6 := q5.set 5 (.pointer none)
          have q7 := q6.set 6 (.int .u64 l0)
          have q8 := q7.set 7 (.int .i64 l1)
          have q9 := q8.set 8 (.pointer none)
          have q10 := q9.set 9 (.pointer rp)
          have q11 := q10.set 10 (.slice va k vc)
          have o1 := own_put R2 (by decide) hown 0 (.string id)
          have o2 := own_put q1 (by decide) o1 1 (.string uid)
          have o3 := own_put q2 (by decide) o2 2 (.string st)
          have o4 := own_put q3 (by decide) o3 3 (.int .u64 c0)
          have o5 := own_put q4 (by decide) o4 4 (.int .i64 c1)
          have o6 := own_put q5 (by decide) o5 5 (.pointer none)
          have o7 := own_put q6 (by decide) o6 6 (.int .u64 l0)
          have o8 := own_put q7 (by decide) o7 7 (.int .i64 l1)
          have o9 := own_put q8 (by decide) o8 8 (.pointer none)
          have o10 := own_put q9 (by decide) o9 9 (.pointer rp)
          have o11 := own_put q10 (by decide) o10 10 (.slice va k vc)
          have hke := HK.out
          have e0 : l0 = lastAt es ca % 1000000000 := by
            rw [HL0.out]; unfold lastAt; rw [← hke]; split
            · exact hc0.out
            · rfl
          have e1 : l1 = lastAt es ca / 1000000000 := by
            rw [HL1.out]; unfold lastAt; rw [← hke]; split
            · exact hc1.out
            · rfl
          refine post10 id uid st c0 c1 l0 l1 rp _ ⟨_, _, _, rfl⟩ rfl q11 ⟨_, rp, by rw [e0, e1, hc0.out, hc1.out], ?_, ?_, ((((((((((bw.setCell hge' _).setCell hge' _).setCell hge' _).setCell hge' _).setCell hge' _).setCell hge' _).setCell hge' _).setCell hge' _).setCell hge' _).setCell hge' _).setCell hge' _⟩
          · have := sl_own o11
            rw [hke] at this
            rw [hke]
            exact this
          · exact ((((((((((hres.put R2 ⟨_, rfl⟩ 0 _).put q1 ⟨_, rfl⟩ 1 _).put q2 ⟨_, rfl⟩ 2 _).put q3 ⟨_, rfl⟩ 3 _).put q4 ⟨_, rfl⟩ 4 _).put q5 ⟨_, rfl⟩ 5 _).put q6 ⟨_, rfl⟩ 6 _).put q7 ⟨_, rfl⟩ 7 _).put q8 ⟨_, rfl⟩ 8 _).put q9 ⟨_, rfl⟩ 9 _).put q10 ⟨_, rfl⟩ 10 _

end Go.Proofs.Qxb6628314a

/-
  THE WALK of Selector (8).
-/
import Derived.Test.Qxb6628158aBuild
import Derived.Test.Qxb6628158aHeld
import Derived.ArgAppend
namespace Go.Proofs.Qxb6628158a
open Go.RowKit

/-- The requirement that the key k asks for, for a pod with the labels ps. -/
def ask (ps : List (ByteArray × ByteArray)) (k : ByteArray) : Rq := ⟨k, IN, .slice none 0 0, [lv ps k]⟩
/-- Is it to be added to qs? -/
def lacks (ps : List (ByteArray × ByteArray)) (qs : List Rq) (k : ByteArray) : Bool := lb ps k && !(qs.any (same (ask ps k)))

/-- A requirement of one value, in a block of its own. -/
def Rq.lone (w : World) (r : Rq) : Prop := ∃ b x, r.v = .slice (some ⟨b, 0, none⟩) 1 1 ∧ r.vals = [x] ∧ Row w b 9 [.string x]

theorem Rq.lone.ok {w : World} {r : Rq} (h : r.lone w) : r.ok w := by
  obtain ⟨b, x, h1, h2, h3⟩ := h
  refine ⟨by rw [h2]; simp, ?_⟩
  rw [h1, h2]
  exact Sl.ofRow h3 rfl (Nat.le_refl _)

theorem Rq.lone.on {w w' : World} {r : Rq} (h : r.lone w) (hb : Below w.heap.size w w') : r.lone w' := by
  obtain ⟨b, x, h1, h2, h3⟩ := h
  exact ⟨b, x, h1, h2, h3.below hb h3.lt⟩

theorem Rq.lone.grown {w w' : World} {r : Rq} {base n : Nat} {v : Value} {L : List Value} (h : r.lone w) (ho : w.ownsRow base 41 3 v n L) (hg : w.grownBy w' v.ownBlock) : r.lone w' := by
  obtain ⟨b, x, h1, h2, h3⟩ := h
  refine ⟨b, x, h1, h2, h3.grown hg ?_⟩
  rcases ho.2 with ⟨rfl, _⟩ | ⟨g, cap, cur, rfl, _, hc, _⟩
  · intro e; cases e
  · intro e
    cases e
    unfold Row at h3
    rw [hc] at h3
    cases h3

theorem Sl.cap {w : World} {a : Option Addr} {n c m sz : Nat} {L : List Value} (h : Sl w (.slice a n c) m sz L) : n ≤ c := by
  rcases h with ⟨e, _, _⟩ | ⟨ad, c', e, h1, _, _⟩
  · cases e; exact Nat.le_refl _
  · cases e; exact h1

theorem Sl.isNil {w : World} {a : Option Addr} {n c m sz : Nat} {L : List Value} (h : Sl w (.slice a n c) m sz L) : a = none → n = 0 ∧ c = 0 := by
  intro ha
  subst ha
  rcases h with ⟨e, _, _⟩ | ⟨ad, c', e, h1, _, _⟩
  · cases e; exact ⟨rfl, rfl⟩
  · cases e

theorem Sl.reads {w : World} {a : Option Addr} {n c m sz : Nat} {L : List Value} (h : Sl w (.slice a n c) m sz L) : ∀ b, a = some b → ∀ j u, L[j]? = some u → w.cell? (b.add j) = some u := by
  intro b hb
  subst hb
  rcases h with ⟨e, _, _⟩ | ⟨ad, c', e, h1, _, h3⟩
  · cases e
  · cases e; exact h3

theorem rqCells_one {w : World} {ws : List Rq} (h : ∀ r ∈ ws, r.lone w) : ∀ u ∈ rqCells ws, u.oneCell' = true := by
  intro u hu
  obtain ⟨r, hr, hm⟩ := List.mem_flatMap.1 hu
  obtain ⟨b, x, h1, _, _⟩ := h r hr
  simp only [Rq.cells, List.mem_cons, List.not_mem_nil, or_false] at hm
  rcases hm with rfl | rfl | rfl
  · rfl
  · rfl
  · rw [h1]; rfl

theorem cells_three (w : World) (T : TypeId) (a b c : Value) : ∀ (j : Nat) (u : Value), [a, b, c][j]? = some u → (w.alloc (.cells #[a, b, c] T)).cell? ((⟨w.heap.size, 0, none⟩ : Addr).add j) = some u := by
  intro j u hj
  rw [Addr.add_lit]
  simpa using (Row.new w T [a, b, c]).cell hj

theorem sel_none (n : Int) (t u : ByteArray) (ka : Option Addr) (kl kc : Nat) (q1 q2 q3 : Option Addr) (mv : Value) (w : World) :
    Calls Try.prog 8 #[.agg #[.int .i32 n, .string t, .string u, .pointer none, .slice ka kl kc, .pointer q1, .pointer q2, .pointer q3], mv] w fun e w' => e = .returned (.pointer none) ∧ Below w.heap.size w w' := by
  go_enter Try.func8, Try.ntmps8
  go_wp2
  go_ret
  exact ⟨rfl, (Below.refl _ _).alloc (Nat.le_refl _) _⟩

theorem eqnil36 (W : World) (a : Option Addr) (n c : Nat) : (binOp .eql 36 (.slice a n c) (.slice none 0 0)).run Try.prog W = .ok (.bool a.isNone) W := Lib.run_eql_slice_nil W 36 41 a n c 0 0 Try.underlying36

set_option maxHeartbeats 4000000 in
theorem sel_some (n : Int) (t u : ByteArray) (p : Nat) (ka : Option Addr) (kc : Nat) (q1 q2 q3 : Option Addr) (mv : Value) (keys : List ByteArray) (ps : List (ByteArray × ByteArray)) (qs : List Rq) (w : World)
    (hk : keys.length ≤ 4096) (hks : Sl w (.slice ka keys.length kc) keys.length 1 (strs keys)) (hkz : ∀ k ∈ keys, k.size ≤ maxLen) (hq : qs.length ≤ 16384) (hs : SelAt w p qs) (hm : LookAt w mv ps) :
    Calls Try.prog 8 #[.agg #[.int .i32 n, .string t, .string u, .pointer (some ⟨p, 0, none⟩), .slice ka keys.length kc, .pointer q1, .pointer q2, .pointer q3], mv] w fun e w' => Below w.heap.size w w' ∧ ((keys.filter (lacks ps qs) = [] ∧ e = .returned (.pointer (some ⟨p, 0, none⟩))) ∨ ∃ p' ws, e = .returned (.pointer (some ⟨p', 0, none⟩)) ∧ SelAt w' p' (qs ++ ws) ∧ 0 < ws.length ∧ ws.map Rq.told = (keys.filter (lacks ps qs)).map fun k => (ask ps k).told) := by
  obtain ⟨i0, hi, hz0, hz1, hz2⟩ := info_parts Try.info41
  obtain ⟨m0, ev, hs0, hs1, hse⟩ := hs
  obtain ⟨ea, ec, rfl⟩ := hse.1.shape
  go_enter Try.func8, Try.ntmps8
  go_wp2
  go_loopw [6, 20] (fun v i wr => ∃ (k : Nat) (ws : List Rq), k ≤ keys.length ∧ i = .int .i64 k ∧ Hid (ws.map Rq.told = ((keys.take k).filter (lacks ps qs)).map fun k => (ask ps k).told) ∧ wr.ownsRow w.heap.size 41 3 v ws.length (rqCells ws) ∧ (∀ r ∈ ws, r.lone wr) ∧ (v = .slice none 0 0 ∨ 0 < ws.length) ∧ Below w.heap.size w wr) (fun _ i _ => keys.length - (intOf i).toNat)
  case atStart => exact ⟨0, [], Nat.zero_le _, rfl, rfl, World.ownsRow_nil _ _ _ _, by simp, .inl rfl, (Below.refl _ _).alloc (Nat.le_refl _) _⟩
  case round =>
    obtain ⟨k, ws, hkl, rfl, HW, hown, hlone, hnz, hb⟩ := hrel
    have hszr := hb.size
    by_cases hlt : k < keys.length
    · obtain ⟨x, hx⟩ : ∃ x, x = keys.getD k emp := ⟨_, rfl⟩
      obtain ⟨b1, o1, c1', e1, _, _, hc1⟩ := hks.at (by rw [strs_length]; omega)
      cases e1
      have g0 : wr.cell? ⟨b1, o1 + k, none⟩ = some (.string x) := by rw [hx]; exact (hb.cell (World.block_lt_of_cell? w _ (hc1 k _ (strs_at keys k hlt)))).trans (hc1 k _ (strs_at keys k hlt))
      have hxz : x.size ≤ maxLen := hkz x (by rw [hx, getD_at _ _ hlt]; exact List.getElem_mem _)
      have hlk := hm wr hb x hxz
      have htk : (keys.take (k + 1)).filter (lacks ps qs) = (keys.take k).filter (lacks ps qs) ++ [x].filter (lacks ps qs) := by
        rw [List.take_succ_eq_append_getElem hlt, List.filter_append, hx, getD_at _ _ hlt]
      have HTK := Lib.hid htk
      clear hx hc1 htk
      obtain ⟨val, hval⟩ : ∃ z, z = lv ps x := ⟨_, rfl⟩
      obtain ⟨q, hq'⟩ : ∃ q, q = lb ps x := ⟨_, rfl⟩
      rw [← hval, ← hq'] at hlk
      have HV := Lib.hid hval
      have HQ := Lib.hid hq'
      clear hval hq'
      cases q
      · have HN := Lib.hid (show ws.map Rq.told = ((keys.take (k + 1)).filter (lacks ps qs)).map (fun k => (ask ps k).told) by
          rw [HTK.out, HW.out]; simp [lacks, ← HQ.out])
        go_wp2
        go_roundw
        case rel => exact ⟨k + 1, ws, by omega, by go_num, HN, hown, hlone, hnz, hb⟩
        case measure => simp [intOf]; omega
      · go_wp2
        obtain ⟨W2, hW2⟩ : ∃ W, W = ((wr.alloc (.cells #[.string val] 9)).alloc (.cells #[.string x, .string ⟨#[73, 110]⟩, .slice (some ⟨wr.heap.size, 0, none⟩) 1 1] 41)) := ⟨_, rfl⟩
        rw [← hW2]
        have hz : W2.heap.size = wr.heap.size + 2 := by rw [hW2]; simp
        have c2 : Below wr.heap.size wr W2 := by rw [hW2]; exact ((Below.refl _ _).alloc (Nat.le_refl _) _).alloc (by simp) _
        have b2 : Below w.heap.size w W2 := hb.trans (c2.mono hszr)
        have rv : Row W2 wr.heap.size 9 [.string val] := by rw [hW2]; exact (Row.new wr 9 [.string val]).alloc _
        have rr : Row W2 (wr.heap.size + 1) 41 [.string x, .string ⟨#[73, 110]⟩, .slice (some ⟨wr.heap.size, 0, none⟩) 1 1] := by
          have := Row.new (wr.alloc (.cells #[.string val] 9)) 41 [.string x, .string ⟨#[73, 110]⟩, .slice (some ⟨wr.heap.size, 0, none⟩) 1 1]
          rw [hW2]
          simpa using this
        have own2 : W2.ownsRow w.heap.size 41 3 u6 ws.length (rqCells ws) := by rw [hW2]; exact (hown.alloc _).alloc _
        have lone2 : ∀ r ∈ ws, r.lone W2 := fun r hr => (hlone r hr).on c2
        have s1 : W2.cell? ⟨p, 1, none⟩ = some (.slice ea qs.length ec) := (b2.cell (World.block_lt_of_cell? w _ hs1)).trans hs1
        have d0 := rr.cell (j := 0) rfl
        have d1 := rr.cell (j := 1) rfl
        have d2 := rr.cell (j := 2) rfl
        have lone9 : Rq.lone W2 ⟨x, IN, .slice (some ⟨wr.heap.size, 0, none⟩) 1 1, [val]⟩ := ⟨_, _, rfl, rfl, rv⟩
        have sel2 := hse.on b2
        have hpz : p < W2.heap.size := World.block_lt_of_cell? W2 _ s1
        have hrz : wr.heap.size + 1 < W2.heap.size := by omega
        clear hW2 hlk hown hlone g0
        go_region_held3 (fun w' => w'.cell? ⟨p, 1, none⟩ = some (.slice ea qs.length ec) ∧ w'.cell? ⟨wr.heap.size + 1, 0, none⟩ = some (.string x) ∧ w'.cell? ⟨wr.heap.size + 1, 1, none⟩ = some (.string ⟨#[73, 110]⟩) ∧ w'.cell? ⟨wr.heap.size + 1, 2, none⟩ = some (.slice (some ⟨wr.heap.size, 0, none⟩) 1 1)) (simp [*, go_sem])
          (first | (go_at_call 16; refine (containsFunc_any _ qs ⟨x, IN, .slice (some ⟨wr.heap.size, 0, none⟩) 1 1, [val]⟩ W2.drew (by omega) sel2 lone9.ok).mono ?_; rintro e w1 ⟨rfl, hb1⟩; have p0 := (hb1.cell (p := ⟨wr.heap.size + 1, 0, none⟩) hrz).trans d0; have p1 := (hb1.cell (p := ⟨wr.heap.size + 1, 1, none⟩) hrz).trans d1; have p2 := (hb1.cell (p := ⟨wr.heap.size + 1, 2, none⟩) hrz).trans d2; have p3 := (hb1.cell (p := ⟨p, 1, none⟩) hpz).trans s1))
        have hb1' : Below W2.heap.size W2 w1 := (show Below W2.heap.size W2 W2.drew from (Below.refl _ _).drew).trans (by assumption)
        have p0 : w1.cell? ⟨wr.heap.size + 1, 0, none⟩ = some (.string x) := (hb1'.cell (p := ⟨wr.heap.size + 1, 0, none⟩) hrz).trans d0
        have p1 : w1.cell? ⟨wr.heap.size + 1, 1, none⟩ = some (.string ⟨#[73, 110]⟩) := (hb1'.cell (p := ⟨wr.heap.size + 1, 1, none⟩) hrz).trans d1
        have p2 : w1.cell? ⟨wr.heap.size + 1, 2, none⟩ = some (.slice (some ⟨wr.heap.size, 0, none⟩) 1 1) := (hb1'.cell (p := ⟨wr.heap.size + 1, 2, none⟩) hrz).trans d2
        have own3 : w1.ownsRow w.heap.size 41 3 u6 ws.length (rqCells ws) := own2.kept ⟨hb1'.os, hb1'.tape, hb1'.output, hb1'.size, fun k hk _ => hb1'.block k hk⟩ (row := none) (by cases h : u6.ownBlock <;> simp)
        have lone3 : ∀ r ∈ ws, r.lone w1 := fun r hr => (lone2 r hr).on hb1'
        have lone8 := lone9.on hb1'
        have b3 : Below w.heap.size w w1 := b2.trans (hb1'.mono b2.size)
        have hz3 : w.heap.size ≤ w1.heap.size := b3.size
        obtain ⟨q, hq'⟩ : ∃ q, q = qs.any (same ⟨x, IN, .slice (some ⟨wr.heap.size, 0, none⟩) 1 1, [val]⟩) := ⟨_, rfl⟩
        rw [← hq']
        have hlq : lacks ps qs x = !q := by
          unfold lacks
          rw [← HQ.out, hq', Bool.true_and]
          unfold ask
          rw [← HV.out]
          rfl
        have HLQ := Lib.hid hlq
        clear hq' hlq own2 lone2 lone9 d0 d1 d2 s1 rr rv sel2 c2
        cases q
        · have HN := Lib.hid (show (ws ++ [(⟨x, IN, .slice (some ⟨wr.heap.size, 0, none⟩) 1 1, [val]⟩ : Rq)]).map Rq.told = ((keys.take (k + 1)).filter (lacks ps qs)).map (fun k => (ask ps k).told) by
            rw [HTK.out, List.map_append, HW.out]; simp [HLQ.out, Rq.told, ask, ← HV.out])
          have hwl : ws.length ≤ k := by
            have := congrArg List.length HW.out
            simp only [List.length_map] at this
            rw [this]
            refine Nat.le_trans (List.length_filter_le _ _) ?_
            simp; omega
          go_wp2_with (at_builtin; refine wpList_append_own _ rfl _ _ 36 rfl w.heap.size 41 i0 _ 3 56 Try.underlying36 hi hz0 hz1 hz2 rfl (by decide) _ _ _ rfl (own3.alloc _) ⟨w1.heap.size, 0, none⟩ 1 1 [.string x, .string ⟨#[73, 110]⟩, .slice (some ⟨wr.heap.size, 0, none⟩) 1 1] rfl rfl (cells_three _ _ _ _ _) (by intro u' hu'; simp at hu'; rcases hu' with rfl | rfl | rfl <;> rfl) (by unfold maxLen; omega) (by omega) (by simp; omega) ?_)
          intro v1 w4 hown4 hg4 _
          have hb4 : Below w.heap.size w w4 := (b3.alloc (by omega) _).grown hg4 (by simp; omega) (fun k hk => (own3.lt k hk).1)
          have lone4 : ∀ r ∈ ws ++ [(⟨x, IN, .slice (some ⟨wr.heap.size, 0, none⟩) 1 1, [val]⟩ : Rq)], r.lone w4 := by
            intro r hr
            have h3 : r.lone w1 := by
              rcases List.mem_append.1 hr with h | h
              · exact lone3 r h
              · rw [List.mem_singleton] at h; subst h; exact lone8
            exact (h3.on ((Below.refl _ _).alloc (Nat.le_refl _) _)).grown (own3.alloc _) hg4
          have hown5 : w4.ownsRow w.heap.size 41 3 v1 (ws ++ [(⟨x, IN, .slice (some ⟨wr.heap.size, 0, none⟩) 1 1, [val]⟩ : Rq)]).length (rqCells (ws ++ [(⟨x, IN, .slice (some ⟨wr.heap.size, 0, none⟩) 1 1, [val]⟩ : Rq)])) := by
            rw [rqCells_append, List.length_append]; exact hown4
          clear hg4 hown4 own3 lone3 lone8 p0 p1 p2
          go_wp2
          go_roundw
          case rel => exact ⟨k + 1, _, by omega, by go_num, HN, hown5, lone4, .inr (by simp), hb4⟩
          case measure => simp [intOf]; omega
        · have HN := Lib.hid (show ws.map Rq.told = ((keys.take (k + 1)).filter (lacks ps qs)).map (fun k => (ask ps k).told) by
            rw [HTK.out, HW.out]; simp [HLQ.out])
          go_wp2
          go_roundw
          case rel => exact ⟨k + 1, ws, by omega, by go_num, HN, own3, lone3, hnz, b3⟩
          case measure => simp [intOf]; omega
    · have hke : k = keys.length := by omega
      subst hke
      have hW := HW.out
      rw [List.take_length] at hW
      have HW2 := Lib.hid hW
      have hq0 := eqnil36
      clear hW HW
      have f0 := (hb.cell (World.block_lt_of_cell? w _ hs0)).trans hs0
      have f1 := (hb.cell (World.block_lt_of_cell? w _ hs1)).trans hs1
      rcases hown.2 with ⟨rfl, h0⟩ | ⟨g, cap, cur, rfl, hbg, hcg, hnc, hcm, hcs, hct⟩
      · have hws : ws = [] := List.eq_nil_of_length_eq_zero h0
        subst hws
        have hf : keys.filter (lacks ps qs) = [] := by have := HW2.out; simpa using this.symm
        have HF := Lib.hid hf
        clear hf hown
        go_wp2
        go_ret
        exact ⟨hb, .inl ⟨by simpa using HF.out, rfl⟩⟩
      · have hpos : 0 < ws.length := by
          rcases hnz with h | h
          · cases h
          · exact h
        have hwl : ws.length ≤ keys.length := by
          have := congrArg List.length HW2.out
          simp only [List.length_map] at this
          rw [this]
          exact List.length_filter_le _ _
        have hcap := hse.1.cap
        have hpw : p < wr.heap.size := World.block_lt_of_cell? wr _ f1
        have hpne : ¬ p = wr.heap.size := by omega
        have hown' := hown.alloc (.cells #[.map m0, .slice ea qs.length ec] 38)
        have hcs2 := hown'.cells (g := g) rfl
        have hA : Below wr.heap.size wr (wr.alloc (.cells #[.map m0, .slice ea qs.length ec] 38)) := (Below.refl _ _).alloc (Nat.le_refl _) _
        have hsl := (hse.on hb).on hA
        have rm := Row.new wr 38 [.map m0, .slice ea qs.length ec]
        clear hcg hct hcs hnz hown hq0
        have hq0 := eqnil36
        go_wp2_with fail
        refine (clip_any ea qs.length ec _ hcap (by omega)).mono ?_
        rintro e w1 ⟨rfl, rfl⟩
        go_wp2_with (at_builtin; refine wpList_append_grows _ rfl _ _ 36 rfl 41 i0 _ 3 56 Try.underlying36 hi hz0 hz1 hz2 rfl (by decide) ea qs.length qs.length (rqCells qs) rfl (fun h => ⟨(hse.1.isNil h).1, (hse.1.isNil h).1⟩) (rqCells_length _) hsl.1.reads ⟨g, 0, none⟩ ws.length cap (rqCells ws) rfl (rqCells_length _) hcs2 (rqCells_one hlone) (by omega) (by unfold maxLen; omega) (by omega) ?_)
        intro v' w' hown4 hg4
        have rm4 := rm.grown hg4 (by simp)
        have hB4 : Below wr.heap.size wr w' := hA.grown hg4 (by simp) (fun k hk => by cases hk)
        rcases hown4.2 with ⟨rfl, h0⟩ | ⟨g', cap', cur', rfl, hbg', hcg', hnc', _, _, _⟩
        · omega
        have hgg : wr.heap.size < g' := by first | omega | (simp at hbg'; omega)
        have hcells4 := hown4.cells (g := g') rfl
        have e0 := rm4.cell (j := 0) rfl
        have e1 := rm4.cell (j := 1) rfl
        have e2 := rm4.frozen 1
        have hlen4 := hown4.1
        clear hown4 hg4 hcg' hcs2 hown' rm hsl hA f0 f1
        go_wp2
        go_ret
        have hBf : Below wr.heap.size wr (w'.setCell ⟨wr.heap.size, 1, none⟩ (.slice (some ⟨g', 0, none⟩) (qs.length + ws.length) cap')) := hB4.setCell (Nat.le_refl _) _
        have hbf := hb.trans (hBf.mono hszr)
        refine ⟨hbf, .inr ⟨wr.heap.size, ws, rfl, ⟨m0, _, (rm4.set 1 _).cell (j := 0) rfl, (rm4.set 1 _).cell (j := 1) rfl, ?_, ?_⟩, hpos, HW2.out⟩⟩
        · have hsl4 : Sl w' (.slice (some ⟨g', 0, none⟩) (qs.length + ws.length) cap') (qs ++ ws).length 3 (rqCells (qs ++ ws)) :=
            .inr ⟨⟨g', 0, none⟩, cap', by rw [List.length_append], by rw [List.length_append]; exact hnc', rqCells_length _, by rw [rqCells_append]; exact hcells4⟩
          exact hsl4.put (g := wr.heap.size) (fun ad k c e => by cases e; exact hgg) 1 (.slice (some ⟨g', 0, none⟩) (qs.length + ws.length) cap')
        · intro r hr
          rcases List.mem_append.1 hr with h | h
          · exact (hse.2 r h).on hbf
          · exact ((hlone r h).on hBf).ok

end Go.Proofs.Qxb6628158a

/-
  THE WALKS of zzBuild (6), zzSameReq (9), zzHeldC (10).
-/
import Derived.Test.Qxb6628158aReqs
import Derived.Test.Qxb6628158aMap
import Derived.Deep.DeepCutAuto
namespace Go.Proofs.Qxb6628158a
open Go.RowKit

/-- The selector behind a pointer: a map that nobody reads, and the requirements. -/
def SelAt (w : World) (g : Nat) (qs : List Rq) : Prop := ∃ mo ev, w.cell? ⟨g, 0, none⟩ = some (.map mo) ∧ w.cell? ⟨g, 1, none⟩ = some ev ∧ ReqsAt w ev qs

theorem SelAt.on {w w' : World} {g : Nat} {qs : List Rq} (h : SelAt w g qs) (hb : Below w.heap.size w w') : SelAt w' g qs := by
  obtain ⟨mv, ev, h1, h2, h3⟩ := h
  exact ⟨mv, ev, (hb.cell (World.block_lt_of_cell? w _ h1)).trans h1, (hb.cell (World.block_lt_of_cell? w _ h2)).trans h2, h3.on hb⟩

theorem Sl.put {w : World} {v : Value} {n sz : Nat} {L : List Value} (h : Sl w v n sz L) {g : Nat} (hg : ∀ ad k c, v = .slice (some ad) k c → g < ad.block) (j : Nat) (u : Value) : Sl (w.setCell ⟨g, j, none⟩ u) v n sz L :=
  h.grown (grownBy_setCell w ⟨g, j, none⟩ u) (fun ad k c e _ => Nat.ne_of_gt (hg ad k c e))

theorem ReqsAt.put {w : World} {v : Value} {rs : List Rq} (h : ReqsAt w v rs) {g : Nat} (hg : ∀ ad k c, v = .slice (some ad) k c → g < ad.block) (hr : ∀ r ∈ rs, r.off g) (j : Nat) (u : Value) : ReqsAt (w.setCell ⟨g, j, none⟩ u) v rs :=
  ⟨h.1.put hg j u, fun r hm => (h.2 r hm).set (hr r hm) u⟩

theorem SelAt.new (W : World) (g : Nat) (hg : g = W.heap.size) (mo : Option Nat) (ev : Value) (qs : List Rq) (h : ReqsAt W ev qs) : SelAt (W.alloc (.cells #[.map mo, ev] 38)) g qs := by
  subst hg
  have R := Row.new W 38 [.map mo, ev]
  exact ⟨mo, ev, R.cell (j := 0) rfl, R.cell (j := 1) rfl, h.on ((Below.refl _ _).alloc (Nat.le_refl _) _)⟩

def zero31 : List Value := [.int .i32 0, .string ⟨#[]⟩, .string ⟨#[]⟩, .pointer none, .slice none 0 0, .pointer none, .pointer none, .pointer none]

set_option maxHeartbeats 1000000 in
theorem post6 {Q : Ending → World → Prop} {T : Array Value} {W : World} {g : Nat} {n : Int} {t u : ByteArray} {lp q1 q2 q3 ka : Option Addr} {kl kc : Nat} (hT : T[20]? = some (.pointer (some ⟨g, 0, none⟩)))
    (R : Row W g 31 [.int .i32 n, .string t, .string u, .pointer lp, .slice ka kl kc, .pointer q1, .pointer q2, .pointer q3])
    (hQ : Q (.returned (.agg #[.int .i32 n, .string t, .string u, .pointer lp, .slice ka kl kc, .pointer q1, .pointer q2, .pointer q3])) W) : bodyPost Try.prog Try.f6 Q .ret { tmps := T, defers := [] } W := by
  have d0 := R.cell (j := 0) rfl
  have d1 := R.cell (j := 1) rfl
  have d2 := R.cell (j := 2) rfl
  have d3 := R.cell (j := 3) rfl
  have d4 := R.cell (j := 4) rfl
  have d5 := R.cell (j := 5) rfl
  have d6 := R.cell (j := 6) rfl
  have d7 := R.cell (j := 7) rfl
  exact bodyPost_ret (v := .agg #[.int .i32 n, .string t, .string u, .pointer lp, .slice ka kl kc, .pointer q1, .pointer q2, .pointer q3]) (by simp [results, Try.results6, go_sem, hT, d0, d1, d2, d3, d4, d5, d6, d7]) rfl hQ

set_option maxHeartbeats 1000000 in
theorem build_no (sl ex ks : Value) (n : Int) (t u : ByteArray) (p1 p2 p3 : Option Addr) (keys : List ByteArray) (w : World)
    (hk : keys.length ≤ 1048576) (hks : Sl w ks keys.length 1 (strs keys))
    (h1 : ∀ a, p1 = some a → ∃ n, w.cell? a = some (.int .i32 n)) (h2 : ∀ a, p2 = some a → ∃ s, w.cell? a = some (.string s)) (h3 : ∀ a, p3 = some a → ∃ s, w.cell? a = some (.string s)) :
    Calls Try.prog 6 #[.bool false, sl, ex, ks, .int .i32 n, .string t, .string u, .pointer p1, .pointer p2, .pointer p3] w fun e w' => ∃ kv q1 q2 q3, e = .returned (.agg #[.int .i32 n, .string t, .string u, .pointer none, kv, .pointer q1, .pointer q2, .pointer q3]) ∧ Sl w' kv keys.length 1 (strs keys) ∧ Below w.heap.size w w' := by
  go_enter Try.func6, Try.ntmps6
  go_wp2_with fail
  have hb0 : Below w.heap.size w (w.alloc (.cells zero31.toArray 31)) := (Below.refl _ _).alloc (Nat.le_refl _) _
  refine (strs_any ks keys (w.alloc (.cells zero31.toArray 31)) hk (hks.on hb0)).mono ?_
  rintro e w1 ⟨kv, rfl, hkv, hkf, hb1⟩
  obtain ⟨ka, kc, rfl⟩ := hkv.shape
  have r1 := (Row.new w 31 zero31).below hb1 (by simp)
  have c1 : Below w.heap.size w w1 := hb0.trans (hb1.mono (by simp))
  have z1 : w.heap.size < w1.heap.size := r1.lt
  clear hb1 hb0
  go_wp2_with fail
  refine (i32_any p1 w1 (fun a ha => ?_)).mono ?_
  · obtain ⟨x, hx⟩ := h1 a ha
    exact ⟨x, (c1.cell (World.block_lt_of_cell? w _ hx)).trans hx⟩
  rintro e w2 ⟨q1, rfl, hb2⟩
  have r2 := r1.below hb2 z1
  have c2 : Below w.heap.size w w2 := c1.trans (hb2.mono (by omega))
  have z2 : w.heap.size < w2.heap.size := r2.lt
  have hkv2 := hkv.on hb2
  clear hb2
  go_wp2_with fail
  refine (strP_any p2 w2 (fun a ha => ?_)).mono ?_
  · obtain ⟨x, hx⟩ := h2 a ha
    exact ⟨x, (c2.cell (World.block_lt_of_cell? w _ hx)).trans hx⟩
  rintro e w3 ⟨q2, rfl, hb3⟩
  have r3 := r2.below hb3 z2
  have c3 : Below w.heap.size w w3 := c2.trans (hb3.mono (by omega))
  have z3 : w.heap.size < w3.heap.size := r3.lt
  have hkv3 := hkv2.on hb3
  clear hb3
  go_wp2_with fail
  refine (strP_any p3 w3 (fun a ha => ?_)).mono ?_
  · obtain ⟨x, hx⟩ := h3 a ha
    exact ⟨x, (c3.cell (World.block_lt_of_cell? w _ hx)).trans hx⟩
  rintro e w4 ⟨q3, rfl, hb4⟩
  have r4 := r3.below hb4 z3
  have c4 : Below w.heap.size w w4 := c3.trans (hb4.mono (by omega))
  have z4 : w.heap.size < w4.heap.size := r4.lt
  have hkv4 := hkv3.on hb4
  clear hb4
  have d0 := r4.cell (j := 0) rfl
  have d1 := r4.cell (j := 1) rfl
  have d2 := r4.cell (j := 2) rfl
  have d3 := r4.cell (j := 3) rfl
  have d4 := r4.cell (j := 4) rfl
  have d5 := r4.cell (j := 5) rfl
  have d6 := r4.cell (j := 6) rfl
  have d7 := r4.cell (j := 7) rfl
  have f0 := r4.frozen 0
  have f1 := r4.frozen 1
  have f2 := r4.frozen 2
  have f3 := r4.frozen 3
  have f4 := r4.frozen 4
  have f5 := r4.frozen 5
  have f6 := r4.frozen 6
  have f7 := r4.frozen 7
  go_wp2
  have hkg : ∀ ad k c, Value.slice ka keys.length kc = .slice (some ad) k c → w.heap.size < ad.block := fun ad k c e => by have := hkf ad k c e; simp at this; omega
  refine post6 rfl ((((((((r4.set 0 _).set 1 _).set 2 _).set 3 _).set 4 _).set 5 _).set 6 _).set 7 _ |>.alloc _) ⟨_, q1, q2, q3, rfl, ?_, ?_⟩
  · exact Sl.alloc ((((((((hkv4.put hkg _ _).put hkg _ _).put hkg _ _).put hkg _ _).put hkg _ _).put hkg _ _).put hkg _ _).put hkg _ _) _
  · have hz := Nat.le_refl w.heap.size
    exact ((((((((c4.setCell hz _).setCell hz _).setCell hz _).setCell hz _).setCell hz _).setCell hz _).setCell hz _).setCell hz _).alloc (by simp; omega) _

set_option maxHeartbeats 2000000 in
theorem build_yes (sl ex ks : Value) (n : Int) (t u : ByteArray) (p1 p2 p3 : Option Addr) (keys : List ByteArray) (ps : List (ByteArray × ByteArray)) (rs : List Rq) (w : World)
    (hk : keys.length ≤ 1048576) (hks : Sl w ks keys.length 1 (strs keys))
    (hp : ps.length ≤ 1048576) (hpz : ∀ p ∈ ps, p.1.size ≤ maxLen ∧ p.2.size ≤ maxLen) (hps : Sl w sl ps.length 2 (prCells ps)) (hr : rs.length ≤ 4096) (hrs : ReqsAt w ex rs)
    (h1 : ∀ a, p1 = some a → ∃ n, w.cell? a = some (.int .i32 n)) (h2 : ∀ a, p2 = some a → ∃ s, w.cell? a = some (.string s)) (h3 : ∀ a, p3 = some a → ∃ s, w.cell? a = some (.string s)) :
    Calls Try.prog 6 #[.bool true, sl, ex, ks, .int .i32 n, .string t, .string u, .pointer p1, .pointer p2, .pointer p3] w fun e w' => ∃ g kv q1 q2 q3 qs, e = .returned (.agg #[.int .i32 n, .string t, .string u, .pointer (some ⟨g, 0, none⟩), kv, .pointer q1, .pointer q2, .pointer q3]) ∧ Sl w' kv keys.length 1 (strs keys) ∧ SelAt w' g qs ∧ qs.map Rq.told = rs.map Rq.told ∧ Below w.heap.size w w' := by
  go_enter Try.func6, Try.ntmps6
  go_wp2_with fail
  have hb0 : Below w.heap.size w (w.alloc (.cells zero31.toArray 31)) := (Below.refl _ _).alloc (Nat.le_refl _) _
  refine (strs_any ks keys (w.alloc (.cells zero31.toArray 31)) hk (hks.on hb0)).mono ?_
  rintro e w1 ⟨kv, rfl, hkv, hkf, hb1⟩
  obtain ⟨ka, kc, rfl⟩ := hkv.shape
  have r1 := (Row.new w 31 zero31).below hb1 (by simp)
  have c1 : Below w.heap.size w w1 := hb0.trans (hb1.mono (by simp))
  have z1 : w.heap.size < w1.heap.size := r1.lt
  clear hb1 hb0
  go_wp2_with fail
  refine (i32_any p1 w1 (fun a ha => ?_)).mono ?_
  · obtain ⟨x, hx⟩ := h1 a ha
    exact ⟨x, (c1.cell (World.block_lt_of_cell? w _ hx)).trans hx⟩
  rintro e w2 ⟨q1, rfl, hb2⟩
  have r2 := r1.below hb2 z1
  have c2 : Below w.heap.size w w2 := c1.trans (hb2.mono (by omega))
  have z2 : w.heap.size < w2.heap.size := r2.lt
  have hkv2 := hkv.on hb2
  clear hb2
  go_wp2_with fail
  refine (strP_any p2 w2 (fun a ha => ?_)).mono ?_
  · obtain ⟨x, hx⟩ := h2 a ha
    exact ⟨x, (c2.cell (World.block_lt_of_cell? w _ hx)).trans hx⟩
  rintro e w3 ⟨q2, rfl, hb3⟩
  have r3 := r2.below hb3 z2
  have c3 : Below w.heap.size w w3 := c2.trans (hb3.mono (by omega))
  have z3 : w.heap.size < w3.heap.size := r3.lt
  have hkv3 := hkv2.on hb3
  clear hb3
  go_wp2_with fail
  refine (strP_any p3 w3 (fun a ha => ?_)).mono ?_
  · obtain ⟨x, hx⟩ := h3 a ha
    exact ⟨x, (c3.cell (World.block_lt_of_cell? w _ hx)).trans hx⟩
  rintro e w4 ⟨q3, rfl, hb4⟩
  have r4 := r3.below hb4 z3
  have c4 : Below w.heap.size w w4 := c3.trans (hb4.mono (by omega))
  have z4 : w.heap.size < w4.heap.size := r4.lt
  have hkv4 := hkv3.on hb4
  clear hb4
  have hps4 := hps.on c4
  have hrs4 := hrs.on c4
  clear hps hrs h1 h2 h3
  go_wp2_with fail
  have hA : Below w4.heap.size w4 (w4.alloc (.cells (List.toArray [.int .i32 n, .string t, .string u, .pointer none, .slice ka keys.length kc, .pointer q1, .pointer q2, .pointer q3]) 31)) := (Below.refl _ _).alloc (Nat.le_refl _) _
  refine (map_any sl ps _ hp hpz (hps4.on hA)).mono ?_
  rintro e w5 ⟨m, rfl, -, hb5⟩
  have r5 := (r4.alloc _).below hb5 (by simp; omega)
  have s5 := (Row.new w4 31 [.int .i32 n, .string t, .string u, .pointer none, .slice ka keys.length kc, .pointer q1, .pointer q2, .pointer q3]).below hb5 (by simp)
  have c45 : Below w4.heap.size w4 w5 := hA.trans (hb5.mono (by simp))
  have z5 : w4.heap.size < w5.heap.size := s5.lt
  have hrs5 := hrs4.on c45
  clear hb5 hA
  go_wp2_with fail
  refine (reqs_any ex rs w5 hr hrs5).mono ?_
  rintro e w6 ⟨ev, qs, rfl, hqs, hev, hqo, hef, hb6⟩
  obtain ⟨ea, ec, rfl⟩ := hev.1.shape
  have r6 := r5.below hb6 (by omega)
  have s6 := s5.below hb6 (by omega)
  have c46 : Below w4.heap.size w4 w6 := c45.trans (hb6.mono (by omega))
  have z6 : w4.heap.size < w6.heap.size := s6.lt
  have hkv6 := hkv4.on c46
  have c6 : Below w.heap.size w w6 := c4.trans (c46.mono (by omega))
  have HQ := Lib.hid hqs
  have hZ : w5.heap.size ≤ w6.heap.size := hb6.size
  clear hb6 hrs5 hrs4 hps4 hqs
  have d0 := r6.cell (j := 0) rfl
  have d1 := r6.cell (j := 1) rfl
  have d2 := r6.cell (j := 2) rfl
  have d3 := r6.cell (j := 3) rfl
  have d4 := r6.cell (j := 4) rfl
  have d5 := r6.cell (j := 5) rfl
  have d6 := r6.cell (j := 6) rfl
  have d7 := r6.cell (j := 7) rfl
  have f0 := r6.frozen 0
  have f1 := r6.frozen 1
  have f2 := r6.frozen 2
  have f3 := r6.frozen 3
  have f4 := r6.frozen 4
  have f5 := r6.frozen 5
  have f6 := r6.frozen 6
  have f7 := r6.frozen 7
  have m0 := s6.cell (j := 0) rfl
  have m1 := s6.cell (j := 1) rfl
  have m2 := s6.cell (j := 2) rfl
  have m3 := s6.cell (j := 3) rfl
  have m4 := s6.cell (j := 4) rfl
  have m5 := s6.cell (j := 5) rfl
  have m6 := s6.cell (j := 6) rfl
  have m7 := s6.cell (j := 7) rfl
  have x3 := s6.frozen 3
  have n1 : w.heap.size < w6.heap.size := by omega
  have n2 : ¬ w.heap.size = w6.heap.size := by omega
  have n3 : ¬ w.heap.size = w4.heap.size := by omega
  have n4 : ¬ w4.heap.size = w.heap.size := by omega
  go_wp2
  have hkg : ∀ ad k c, Value.slice ka keys.length kc = .slice (some ad) k c → w.heap.size < ad.block := fun ad k c e => by have := hkf ad k c e; simp at this; omega
  have heg : ∀ ad k c, Value.slice ea qs.length ec = .slice (some ad) k c → w.heap.size < ad.block := fun ad k c e => by have := hef ad k c e; omega
  have heg4 : ∀ ad k c, Value.slice ea qs.length ec = .slice (some ad) k c → w4.heap.size < ad.block := fun ad k c e => by have := hef ad k c e; omega
  have hqg : ∀ r ∈ qs, r.off w.heap.size := fun r hr ad k c e => by have := hqo r hr ad k c e; omega
  have hqg4 : ∀ r ∈ qs, r.off w4.heap.size := fun r hr ad k c e => by have := hqo r hr ad k c e; omega
  have hz := Nat.le_refl w.heap.size
  have hz4 : w.heap.size ≤ w4.heap.size := by omega
  refine post6 rfl (((((((((r6.other ⟨w4.heap.size, 3, none⟩ n4 _).set 0 _).set 1 _).set 2 _).set 3 _).set 4 _).set 5 _).set 6 _).set 7 _ |>.alloc _) ⟨w6.heap.size, _, q1, q2, q3, qs, rfl, ?_, ?_, HQ.out, ?_⟩
  · exact Sl.alloc (((((((((hkv4.on (c46.setCell (Nat.le_refl _) _)).put hkg _ _).put hkg _ _).put hkg _ _).put hkg _ _).put hkg _ _).put hkg _ _).put hkg _ _).put hkg _ _) _
  · refine SelAt.new _ _ (by simp) _ _ _ ?_
    exact ((((((((hev.put heg4 hqg4 _ _).put heg hqg _ _).put heg hqg _ _).put heg hqg _ _).put heg hqg _ _).put heg hqg _ _).put heg hqg _ _).put heg hqg _ _).put heg hqg _ _
  · exact (((((((((c6.setCell hz4 _).setCell hz _).setCell hz _).setCell hz _).setCell hz _).setCell hz _).setCell hz _).setCell hz _).setCell hz _).alloc (by simp; omega) _

end Go.Proofs.Qxb6628158a

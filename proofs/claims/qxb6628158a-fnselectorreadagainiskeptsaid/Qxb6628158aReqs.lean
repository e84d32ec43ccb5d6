/-
  THE WALK of zzReqs (15): a deep copy of a list of requirements.
-/
import Derived.Test.Qxb6628158aEq
import Derived.Deep.RegionHeld3
namespace Go.Proofs.Qxb6628158a
open Go.RowKit

theorem Try.info41 : (Try.prog.info? 41).map (fun i => (i.zero, i.size, i.bytes)) = some (some (.agg #[.string ⟨#[]⟩, .string ⟨#[]⟩, .slice none 0 0]), 3, 56) := by kernel_rfl
theorem eqnil23 (W : World) (a : Option Addr) (n c : Nat) : (binOp .eql 23 (.slice a n c) (.slice none 0 0)).run Try.prog W = .ok (.bool a.isNone) W := Lib.run_eql_slice_nil W 23 43 a n c 0 0 Try.underlying23

def zeroRq : Rq := ⟨emp, emp, .slice none 0 0, []⟩

theorem rqCells_append (a b : List Rq) : rqCells (a ++ b) = rqCells a ++ rqCells b := by simp [rqCells]

theorem rqCells_set (qs : List Rq) (k : Nat) (r : Rq) (h : k < qs.length) : (((rqCells qs).set (k * 3) (.string r.key)).set (k * 3 + 1) (.string r.op)).set (k * 3 + 2) r.v = rqCells (qs.set k r) := by
  induction qs generalizing k with
  | nil => simp at h
  | cons a qs ih =>
    have e : rqCells (a :: qs) = a.cells ++ rqCells qs := rfl
    have hl : a.cells.length = 3 := rfl
    cases k with
    | zero => rfl
    | succ k =>
      have h' : k < qs.length := by simpa using h
      rw [e, List.set_cons_succ]
      have e2 : rqCells (a :: qs.set k r) = a.cells ++ rqCells (qs.set k r) := rfl
      rw [e2, ← ih k h']
      rw [List.set_append_right _ _ (by omega), List.set_append_right _ _ (by omega), List.set_append_right _ _ (by omega), hl,
        show (k + 1) * 3 - 3 = k * 3 by omega, show (k + 1) * 3 + 1 - 3 = k * 3 + 1 by omega, show (k + 1) * 3 + 2 - 3 = k * 3 + 2 by omega]

theorem made_at (z : Array Value) (m i : Nat) (h : i < m) : (madeCells z m)[i]? = some (z[i % z.size]!) := by simp [madeCells, h]

theorem made_reqs (n : Nat) : madeCells #[.string ⟨#[]⟩, .string ⟨#[]⟩, .slice none 0 0] (n * 3) = (rqCells (List.replicate n zeroRq)).toArray := by
  apply Array.ext'
  show (madeCells #[.string ⟨#[]⟩, .string ⟨#[]⟩, .slice none 0 0] (n * 3)).toList = rqCells (List.replicate n zeroRq)
  apply List.ext_getElem?
  intro i
  rw [Array.getElem?_toList]
  by_cases h1 : i < n * 3
  · rw [made_at _ _ _ h1]
    have hr : (List.replicate n zeroRq)[i / 3]? = some zeroRq := by rw [List.getElem?_replicate]; simp; omega
    obtain ⟨q0, q1, q2⟩ := rqCells_at _ _ _ hr
    have h3 : i % 3 = 0 ∨ i % 3 = 1 ∨ i % 3 = 2 := by omega
    show some ((#[Value.string ⟨#[]⟩, .string ⟨#[]⟩, .slice none 0 0] : Array Value)[i % 3]!) = _
    rcases h3 with h3 | h3 | h3
    · rw [h3]
      rw [show i / 3 * 3 = i by omega] at q0
      rw [q0]; rfl
    · rw [h3]
      rw [show i / 3 * 3 + 1 = i by omega] at q1
      rw [q1]; rfl
    · rw [h3]
      rw [show i / 3 * 3 + 2 = i by omega] at q2
      rw [q2]; rfl
  · rw [Array.getElem?_eq_none (by rw [size_madeCells]; omega), List.getElem?_eq_none (by rw [rqCells_length]; simp; omega)]

/-- 'make([]SelectorRequirement, n)'. -/
theorem make36 (W : World) (n : Nat) (h : n ≤ 1048576) : (Instr.makeSlice 36 (.int .i64 (n : Int)) (.int .i64 (n : Int))).run Try.prog W = .ok (.slice (some ⟨W.heap.size, 0, none⟩) n n) (W.alloc (.cells (rqCells (List.replicate n zeroRq)).toArray 41)) := by
  obtain ⟨i0, hi, hz0, hz1, hz2⟩ := info_parts Try.info41
  have hr := run_make (P := Try.prog) W 36 41 i0 _ Try.underlying36 hi hz0 .i64 .i64 n n (by omega) (Int.le_refl _) (by rw [hz2]; omega) (by omega)
  rw [hz1] at hr
  simp only [Int.toNat_natCast] at hr
  rw [hr, ← made_reqs]
  rfl

/-- Its values lie past block g. -/
def Rq.off (g : Nat) (r : Rq) : Prop := ∀ ad k c, r.v = .slice (some ad) k c → g < ad.block

theorem grownBy_setCell (w : World) (p : Addr) (v : Value) : w.grownBy (w.setCell p v) (some p.block) :=
  ⟨rfl, rfl, rfl, by simp, fun k _ hk => Below.heap_setCell _ _ _ _ (fun e => hk (by rw [e]))⟩

theorem Rq.ok.set {w : World} {g j : Nat} {r : Rq} (h : r.ok w) (ho : r.off g) (u : Value) : r.ok (w.setCell ⟨g, j, none⟩ u) :=
  ⟨h.1, h.2.grown (grownBy_setCell w ⟨g, j, none⟩ u) (fun ad k c e _ => Nat.ne_of_gt (ho ad k c e))⟩

theorem set_mid (ds : List Rq) (m : Nat) (y : Rq) : (ds ++ List.replicate (m + 1) zeroRq).set ds.length y = ds ++ [y] ++ List.replicate m zeroRq := by
  rw [List.set_append_right _ _ (Nat.le_refl _), Nat.sub_self, List.replicate_succ, List.set_cons_zero, List.append_assoc]
  rfl

/-- The same requirements, wherever their values lie. -/
def Rq.told (r : Rq) : ByteArray × ByteArray × List ByteArray := (r.key, r.op, r.vals)

set_option maxHeartbeats 2000000 in
theorem reqs_some (ad : Addr) (c : Nat) (rs : List Rq) (w : World) (hl : rs.length ≤ 4096) (h : Sl w (.slice (some ad) rs.length c) rs.length 3 (rqCells rs)) (hok : ∀ r ∈ rs, r.ok w) :
    Calls Try.prog 15 #[.slice (some ad) rs.length c] w fun e w' => ∃ v' qs, e = .returned v' ∧ qs.map Rq.told = rs.map Rq.told ∧ ReqsAt w' v' qs ∧ (∀ r ∈ qs, r.off w.heap.size) ∧ (∀ ad k c, v' = .slice (some ad) k c → w.heap.size ≤ ad.block) ∧ Below w.heap.size w w' := by
  have hq := eqnil23
  have hmk := fun W => make36 W rs.length (by omega)
  go_enter Try.func15, Try.ntmps15
  go_wp2
  go_loopw [4] (fun i wr => ∃ (k : Nat) (ds : List Rq), k ≤ rs.length ∧ i = .int .i64 k ∧ Hid (ds.map Rq.told = (rs.take k).map Rq.told) ∧ Row wr w.heap.size 41 (rqCells (ds ++ List.replicate (rs.length - k) zeroRq)) ∧ (∀ r ∈ ds, r.ok wr ∧ r.off w.heap.size) ∧ Below w.heap.size w wr) (fun i _ => rs.length - (intOf i).toNat)
  case atStart => exact ⟨0, [], Nat.zero_le _, rfl, rfl, by simpa using Row.new w 41 _, by simp, (Below.refl _ _).alloc (Nat.le_refl _) _⟩
  case round =>
    clear hmk hq
    obtain ⟨k, ds, hk, rfl, HD, hrow, hds, hb⟩ := hrel
    have hdl : ds.length = k := by have := congrArg List.length HD.out; simp at this; omega
    by_cases hlt : k < rs.length
    · obtain ⟨b1, o1, c1', e1, _, hb1lt, hc1⟩ := h.at (by rw [rqCells_length]; omega)
      cases e1
      obtain ⟨x, hx⟩ : ∃ x, rs[k]? = some x := ⟨_, List.getElem?_eq_getElem hlt⟩
      obtain ⟨q0, q1, q2⟩ := rqCells_at rs k x hx
      have g0 : wr.cell? ⟨b1, o1 + k * 3, none⟩ = some (.string x.key) := (hb.cell (World.block_lt_of_cell? w _ (hc1 _ _ q0))).trans (hc1 _ _ q0)
      have g1 : wr.cell? ⟨b1, o1 + k * 3 + 1, none⟩ = some (.string x.op) := (hb.cell (World.block_lt_of_cell? w _ (hc1 _ _ q1))).trans (hc1 _ _ q1)
      have g2 : wr.cell? ⟨b1, o1 + k * 3 + 2, none⟩ = some x.v := (hb.cell (World.block_lt_of_cell? w _ (hc1 _ _ q2))).trans (hc1 _ _ q2)
      have hxo := (hok x (List.mem_of_getElem? hx)).on hb
      obtain ⟨t, ht⟩ : ∃ t, (ds ++ List.replicate (rs.length - k) zeroRq)[k]? = some t := ⟨_, List.getElem?_eq_getElem (by simp; omega)⟩
      obtain ⟨r0, r1, r2⟩ := rqCells_at _ _ _ ht
      have f0 := hrow.cell r0
      have f1 := hrow.cell r1
      have f2 := hrow.cell r2
      have z0 := hrow.frozen (k * 3)
      have z1 := hrow.frozen (k * 3 + 1)
      have z2 := hrow.frozen (k * 3 + 2)
      have hi1 : (k : Int) < (rs.length : Int) := by omega
      have hsz : w.heap.size < wr.heap.size := hrow.lt
      have hbx : b1 < wr.heap.size := by omega
      have HXT := Lib.hid hx
      clear hx q0 q1 q2 hc1 ht r0 r1 r2
      go_wp2
      go_region_held3 (fun w' => w'.cell? ⟨b1, o1 + k * 3, none⟩ = some (.string x.key) ∧ w'.cell? ⟨b1, o1 + k * 3 + 1, none⟩ = some (.string x.op) ∧ w'.cell? ⟨b1, o1 + k * 3 + 2, none⟩ = some x.v) (simp [*, go_sem])
        (first | (go_at_call 12; refine (strs_any x.v x.vals wr.drew hxo.1 hxo.2).mono ?_; rintro e w1 ⟨v1, rfl, hsl1, hfr1, hb1⟩; obtain ⟨a1, cc1, rfl⟩ := hsl1.shape; have p0 := (hb1.cell (p := ⟨b1, o1 + k * 3, none⟩) hbx).trans g0; have p1 := (hb1.cell (p := ⟨b1, o1 + k * 3 + 1, none⟩) hbx).trans g1; have p2 := (hb1.cell (p := ⟨b1, o1 + k * 3 + 2, none⟩) hbx).trans g2; have p3 := (hb1.cell (p := ⟨w.heap.size, k * 3, none⟩) hsz).trans f0; have p4 := (hb1.cell (p := ⟨w.heap.size, k * 3 + 1, none⟩) hsz).trans f1; have p5 := (hb1.cell (p := ⟨w.heap.size, k * 3 + 2, none⟩) hsz).trans f2; have p6 := (hb1.frozen (p := ⟨w.heap.size, k * 3, none⟩) hsz).trans z0; have p7 := (hb1.frozen (p := ⟨w.heap.size, k * 3 + 1, none⟩) hsz).trans z1; have p8 := (hb1.frozen (p := ⟨w.heap.size, k * 3 + 2, none⟩) hsz).trans z2))
      have hrow1 : Row w1 w.heap.size 41 (rqCells (ds ++ List.replicate (rs.length - k) zeroRq)) := Row.below (w := wr.drew) (B := wr.heap.size) hrow (by assumption) hsz
      have hR := ((hrow1.set (k * 3) (.string x.key)).set (k * 3 + 1) (.string x.op)).set (k * 3 + 2) (.slice a1 x.vals.length cc1)
      rw [rqCells_set _ k ⟨x.key, x.op, .slice a1 x.vals.length cc1, x.vals⟩ (by simp; omega), show rs.length - k = (rs.length - (k + 1)) + 1 by omega] at hR
      have e1 := set_mid ds (rs.length - (k + 1)) ⟨x.key, x.op, .slice a1 x.vals.length cc1, x.vals⟩
      rw [hdl] at e1
      rw [e1] at hR
      have hb1' : Below wr.heap.size wr w1 := (show Below wr.heap.size wr wr.drew from (Below.refl _ _).drew).trans (by assumption)
      have hb2 : Below w.heap.size w w1 := hb.trans (hb1'.mono hb.size)
      have hoks : ∀ r ∈ ds ++ [(⟨x.key, x.op, .slice a1 x.vals.length cc1, x.vals⟩ : Rq)], r.ok (((w1.setCell ⟨w.heap.size, k * 3, none⟩ (.string x.key)).setCell ⟨w.heap.size, k * 3 + 1, none⟩ (.string x.op)).setCell ⟨w.heap.size, k * 3 + 2, none⟩ (.slice a1 x.vals.length cc1)) ∧ r.off w.heap.size := by
        intro r hr
        rcases List.mem_append.1 hr with h1 | h1
        · have ho := (hds r h1).2
          exact ⟨((((hds r h1).1.on hb1').set ho _).set ho _).set ho _, ho⟩
        · rw [List.mem_singleton] at h1
          subst h1
          have ho : Rq.off w.heap.size ⟨x.key, x.op, .slice a1 x.vals.length cc1, x.vals⟩ := by
            intro ad kk cc e
            have h2 : wr.heap.size ≤ ad.block := ‹∀ ad k c, Value.slice a1 x.vals.length cc1 = .slice (some ad) k c → wr.heap.size ≤ ad.block› ad kk cc e
            omega
          have h3 : Rq.ok w1 ⟨x.key, x.op, .slice a1 x.vals.length cc1, x.vals⟩ := ⟨hxo.1, by assumption⟩
          exact ⟨((h3.set ho _).set ho _).set ho _, ho⟩
      have HT := Lib.hid (show (ds ++ [(⟨x.key, x.op, .slice a1 x.vals.length cc1, x.vals⟩ : Rq)]).map Rq.told = (rs.take (k + 1)).map Rq.told by
        rw [List.take_add_one, HXT.out]
        simp only [List.map_append, HD.out]
        rfl)
      go_wp2
      go_roundw
      case rel => exact ⟨k + 1, _, by omega, by go_num, HT, hR, hoks, ((hb2.setCell (Nat.le_refl _) _).setCell (Nat.le_refl _) _).setCell (Nat.le_refl _) _⟩
      case measure => simp [intOf]; omega
    · have hk' : k = rs.length := by omega
      subst hk'
      rw [Nat.sub_self, List.replicate_zero, List.append_nil] at hrow
      have hD := HD.out
      rw [List.take_length] at hD
      have HD2 := Lib.hid hD
      clear hD
      go_wp2
      go_ret
      refine ⟨_, ds, rfl, HD2.out, ⟨?_, fun r hr => (hds r hr).1⟩, fun r hr => (hds r hr).2, (fun ad k c e => by cases e; exact Nat.le_refl _), hb⟩
      rw [hdl]
      exact Sl.ofRow hrow (by rw [rqCells_length, hdl]) (Nat.le_refl _)

theorem reqs_nil (w : World) : Calls Try.prog 15 #[.slice none 0 0] w fun e w' => e = .returned (.slice none 0 0) ∧ w' = w := by
  have hq := eqnil23
  go_enter Try.func15, Try.ntmps15
  go_wp2
  go_ret
  exact ⟨rfl, rfl⟩

/-- zzReqs: the same requirements, in memory of their own. -/
theorem reqs_any (v : Value) (rs : List Rq) (w : World) (hl : rs.length ≤ 4096) (h : ReqsAt w v rs) :
    Calls Try.prog 15 #[v] w fun e w' => ∃ v' qs, e = .returned v' ∧ qs.map Rq.told = rs.map Rq.told ∧ ReqsAt w' v' qs ∧ (∀ r ∈ qs, r.off w.heap.size) ∧ (∀ ad k c, v' = .slice (some ad) k c → w.heap.size ≤ ad.block) ∧ Below w.heap.size w w' := by
  obtain ⟨h1, h2⟩ := h
  have h1' := h1
  rcases h1 with ⟨rfl, h3, h4⟩ | ⟨ad, c, rfl, h3, h4, h5⟩
  · have hp : rs = [] := List.eq_nil_of_length_eq_zero h3
    subst hp
    refine (reqs_nil w).mono ?_
    rintro e w' ⟨rfl, rfl⟩
    exact ⟨_, [], rfl, rfl, ⟨.inl ⟨rfl, rfl, rfl⟩, by simp⟩, by simp, (fun ad k c e => by cases e), Below.refl _ _⟩
  · exact reqs_some ad c rs w hl h1' h2

end Go.Proofs.Qxb6628158a

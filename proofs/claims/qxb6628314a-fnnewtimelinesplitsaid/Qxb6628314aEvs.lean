/-
  THE WALK of zzEvents (9): the events, one for one.
-/
import Derived.Test.Qxb6628314aEv
namespace Go.Proofs.Qxb6628314a
open Go.RowKit

theorem flat_len {α : Type} (f : α → List Value) (k : Nat) (hf : ∀ a, (f a).length = k) (l : List α) : (l.flatMap f).length = l.length * k := by
  induction l with
  | nil => simp
  | cons a t ih => rw [List.flatMap_cons, List.length_append, ih, hf, List.length_cons, Nat.add_mul]; omega

theorem flat_at {α : Type} (f : α → List Value) (k : Nat) (hf : ∀ a, (f a).length = k) (l : List α) (j : Nat) (x : α) (h : l[j]? = some x) (i : Nat) (hi : i < k) : (l.flatMap f)[j * k + i]? = (f x)[i]? := by
  induction l generalizing j with
  | nil => simp at h
  | cons a t ih =>
    rw [List.flatMap_cons]
    cases j with
    | zero =>
      simp at h
      subst h
      rw [Nat.zero_mul, Nat.zero_add, List.getElem?_append_left (by rw [hf]; exact hi)]
    | succ j =>
      have h' : t[j]? = some x := by simpa using h
      rw [List.getElem?_append_right (by rw [hf, Nat.add_mul]; omega), hf, show (j + 1) * k + i - k = j * k + i by rw [Nat.add_mul]; omega]
      exact ih j h'

theorem app_at (A B C : List Value) (o i : Nat) (ho : A.length = o) (hi : i < B.length) : (A ++ (B ++ C))[o + i]? = B[i]? := by
  rw [List.getElem?_append_right (by omega), show o + i - A.length = i by omega, List.getElem?_append_left hi]

def setRow (L : List Value) (o : Nat) : List Value → List Value
  | [] => L
  | v :: vs => setRow (L.set o v) (o + 1) vs

theorem setRow_app (vs B : List Value) : ∀ (A C : List Value), vs.length = B.length → setRow (A ++ (B ++ C)) A.length vs = A ++ (vs ++ C) := by
  induction vs generalizing B with
  | nil => intro A C h; have : B = [] := List.eq_nil_of_length_eq_zero h.symm; subst this; rfl
  | cons v vs ih =>
    intro A C h
    cases B with
    | nil => simp at h
    | cons b B =>
      have h' : vs.length = B.length := by simpa using h
      show setRow ((A ++ (b :: B ++ C)).set A.length v) (A.length + 1) vs = _
      rw [List.set_append_right _ _ (Nat.le_refl _), Nat.sub_self]
      have e : A ++ (b :: B ++ C).set 0 v = (A ++ [v]) ++ (B ++ C) := by simp
      rw [e]
      have := ih B (A ++ [v]) C h'
      rw [List.length_append] at this
      rw [show A.length + 1 = A.length + [v].length from rfl, this]
      simp

theorem real_len (e : Ev) : e.real.length = 7 := rfl
theorem spec_len (e : Ev) : e.spec.length = 5 := rfl

def zs : Nat → List Value
  | 0 => []
  | n + 1 => zeroEv ++ zs n
theorem zs_len (n : Nat) : (zs n).length = n * 7 := by
  induction n with
  | zero => rfl
  | succ n ih => rw [zs, List.length_append, ih, Nat.add_mul]; show 7 + n * 7 = _; omega

theorem Try.info52 : (Try.prog.info? 52).map (fun i => (i.zero, i.size, i.bytes)) = some (some (.agg #[.int .i64 0, .string ⟨#[]⟩, .int .u64 0, .int .i64 0, .pointer none, .string ⟨#[]⟩, .string ⟨#[]⟩]), 7, 80) := by kernel_rfl

theorem made_at (q : Array Value) (m i : Nat) (h : i < m) : (madeCells q m)[i]? = some (q[i % q.size]!) := by simp [madeCells, h]

theorem zs_at (n j i : Nat) (hj : j < n) (hi : i < 7) : (zs n)[j * 7 + i]? = zeroEv[i]? := by
  induction n generalizing j with
  | zero => omega
  | succ n ih =>
    rw [zs]
    cases j with
    | zero => rw [Nat.zero_mul, Nat.zero_add, List.getElem?_append_left (show i < zeroEv.length from hi)]
    | succ j =>
      rw [List.getElem?_append_right (show zeroEv.length ≤ _ by show 7 ≤ _; omega), show zeroEv.length = 7 from rfl, show (j + 1) * 7 + i - 7 = j * 7 + i by omega]
      exact ih j (by omega)

theorem made_evs (n : Nat) : madeCells #[.int .i64 0, .string ⟨#[]⟩, .int .u64 0, .int .i64 0, .pointer none, .string ⟨#[]⟩, .string ⟨#[]⟩] (n * 7) = (zs n).toArray := by
  apply Array.ext'
  show (madeCells #[.int .i64 0, .string ⟨#[]⟩, .int .u64 0, .int .i64 0, .pointer none, .string ⟨#[]⟩, .string ⟨#[]⟩] (n * 7)).toList = zs n
  apply List.ext_getElem?
  intro i
  rw [Array.getElem?_toList]
  by_cases h1 : i < n * 7
  · rw [made_at _ _ _ h1]
    have q := zs_at n (i / 7) (i % 7) (by omega) (by omega)
    rw [show i / 7 * 7 + i % 7 = i by omega] at q
    rw [q]
    show some ((#[Value.int .i64 0, .string ⟨#[]⟩, .int .u64 0, .int .i64 0, .pointer none, .string ⟨#[]⟩, .string ⟨#[]⟩] : Array Value)[i % 7]!) = _
    have h7 : i % 7 < 7 := by omega
    generalize i % 7 = r at h7
    rcases r with _ | _ | _ | _ | _ | _ | _ | r
    all_goals first | rfl | omega
  · rw [Array.getElem?_eq_none (by rw [size_madeCells]; omega), List.getElem?_eq_none (by rw [zs_len]; omega)]

/-- 'make([]Event, n)'. -/
theorem make40 (W : World) (n : Nat) (h : n ≤ 1048576) : (Instr.makeSlice 40 (.int .i64 (n : Int)) (.int .i64 (n : Int))).run Try.prog W = .ok (.slice (some ⟨W.heap.size, 0, none⟩) n n) (W.alloc (.cells (zs n).toArray 52)) := by
  obtain ⟨i0, hi, hz0, hz1, hz2⟩ := info_parts Try.info52
  have hr := run_make (P := Try.prog) W 40 52 i0 _ Try.underlying40 hi hz0 .i64 .i64 n n (by omega) (by omega) (by rw [hz2]; omega) (by omega)
  rw [hz1] at hr
  simp only [Int.toNat_natCast] at hr
  rw [hr, ← made_evs]
  rfl

set_option maxHeartbeats 4000000 in
theorem events_any (v : Value) (es : List Ev) (w : World) (hl : es.length ≤ 1048576) (hfit : ∀ e ∈ es, e.fits) (h : Sl w v es.length 5 (es.flatMap Ev.spec)) :
    Calls Try.prog 9 #[v] w fun x w' => ∃ g, x = .returned (.slice (some ⟨g, 0, none⟩) es.length es.length) ∧ w.heap.size ≤ g ∧ Row w' g 52 (es.flatMap Ev.real) ∧ Below w.heap.size w w' := by
  obtain ⟨ao, c, rfl⟩ := h.shape
  have hmk := fun W => make40 W es.length hl
  go_enter Try.func9, Try.ntmps9
  go_wp2
  go_loopw [4] (fun i wr => ∃ k : Nat, k ≤ es.length ∧ i = .int .i64 k ∧ Row wr w.heap.size 52 ((es.take k).flatMap Ev.real ++ zs (es.length - k)) ∧ Below w.heap.size w wr) (fun i _ => es.length - (intOf i).toNat)
  case atStart => exact ⟨0, Nat.zero_le _, rfl, by simpa using Row.new w 52 _, (Below.refl _ _).alloc (Nat.le_refl _) _⟩
  case round =>
    clear hmk
    obtain ⟨k, hk, rfl, hrow, hb⟩ := hrel
    by_cases hlt : k < es.length
    · obtain ⟨b1, o1, c1', e1, _, _, hc1⟩ := h.at (by rw [flat_len _ 5 spec_len]; omega)
      cases e1
      obtain ⟨x, hx⟩ : ∃ x, es[k]? = some x := ⟨_, List.getElem?_eq_getElem hlt⟩
      have hq := fun i (hi : i < 5) => flat_at Ev.spec 5 spec_len es k x hx i hi
      have hxf := hfit x (List.mem_of_getElem? hx)
      have hA : ((es.take k).flatMap Ev.real).length = k * 7 := by rw [flat_len _ 7 real_len, List.length_take, Nat.min_eq_left hk]
      have hzz : zs (es.length - k) = zeroEv ++ zs (es.length - (k + 1)) := by rw [show es.length - k = (es.length - (k + 1)) + 1 by omega]; rfl
      have hT : (es.take k).flatMap Ev.real ++ (x.real ++ zs (es.length - (k + 1))) = (es.take (k + 1)).flatMap Ev.real ++ zs (es.length - (k + 1)) := by
        rw [List.take_add_one, hx, List.flatMap_append, List.append_assoc]; simp
      have hR0 := setRow_app x.real zeroEv ((es.take k).flatMap Ev.real) (zs (es.length - (k + 1))) rfl
      rw [hA, hT] at hR0
      rw [hzz] at hrow
      have hd := fun i (hi : i < 7) => app_at ((es.take k).flatMap Ev.real) zeroEv (zs (es.length - (k + 1))) (k * 7) i hA hi
      have g0 := (hb.cell (World.block_lt_of_cell? w _ (hc1 _ _ (hq 0 (by omega))))).trans (hc1 _ _ (hq 0 (by omega)))
      have g1 := (hb.cell (World.block_lt_of_cell? w _ (hc1 _ _ (hq 1 (by omega))))).trans (hc1 _ _ (hq 1 (by omega)))
      have g2 := (hb.cell (World.block_lt_of_cell? w _ (hc1 _ _ (hq 2 (by omega))))).trans (hc1 _ _ (hq 2 (by omega)))
      have g3 := (hb.cell (World.block_lt_of_cell? w _ (hc1 _ _ (hq 3 (by omega))))).trans (hc1 _ _ (hq 3 (by omega)))
      have g4 := (hb.cell (World.block_lt_of_cell? w _ (hc1 _ _ (hq 4 (by omega))))).trans (hc1 _ _ (hq 4 (by omega)))
      simp only [Nat.add_zero] at g0
      rw [← Nat.add_assoc] at g1 g2 g3 g4
      have h7 : w.heap.size < wr.heap.size := hrow.lt
      have hi1 : (k : Int) < (es.length : Int) := by omega
      have HR0 := Lib.hid hR0
      obtain ⟨hx0, hx1⟩ := hxf
      obtain ⟨xn, xs, xm, xt, xu⟩ := x
      have g0' : wr.cell? ⟨b1, o1 + k * 5, none⟩ = some (.int .i64 xn) := g0
      have g1' : wr.cell? ⟨b1, o1 + k * 5 + 1, none⟩ = some (.string xs) := g1
      have g2' : wr.cell? ⟨b1, o1 + k * 5 + 2, none⟩ = some (.int .i64 xm) := g2
      have g3' : wr.cell? ⟨b1, o1 + k * 5 + 3, none⟩ = some (.string xt) := g3
      have g4' : wr.cell? ⟨b1, o1 + k * 5 + 4, none⟩ = some (.string xu) := g4
      have hev := event_any xn xm xs xt xu wr hx0 hx1
      obtain ⟨a, ha⟩ : ∃ a, a = xm % 1000000000 := ⟨_, rfl⟩
      obtain ⟨b, hb'⟩ : ∃ b, b = xm / 1000000000 := ⟨_, rfl⟩
      rw [← ha, ← hb'] at hev
      have HA := Lib.hid ha
      have HB := Lib.hid hb'
      clear g0 g1 g2 g3 g4 hq hc1 hT hzz hR0 ha hb' hx
      go_wp2_with fail
      refine hev.mono ?_
      rintro y w1 ⟨rfl, hb1⟩
      have hrow1 := hrow.below hb1 h7
      have hbw := hb.trans (hb1.mono hb.size)
      have d0 := hrow1.cell (hd 0 (by omega))
      have f0 := hrow1.frozen (k * 7 + 0)
      have d1 := hrow1.cell (hd 1 (by omega))
      have f1 := hrow1.frozen (k * 7 + 1)
      have d2 := hrow1.cell (hd 2 (by omega))
      have f2 := hrow1.frozen (k * 7 + 2)
      have d3 := hrow1.cell (hd 3 (by omega))
      have f3 := hrow1.frozen (k * 7 + 3)
      have d4 := hrow1.cell (hd 4 (by omega))
      have f4 := hrow1.frozen (k * 7 + 4)
      have d5 := hrow1.cell (hd 5 (by omega))
      have f5 := hrow1.frozen (k * 7 + 5)
      have d6 := hrow1.cell (hd 6 (by omega))
      have f6 := hrow1.frozen (k * 7 + 6)
      simp only [Nat.add_zero] at d0 f0
      have hR := ((((((hrow1.set (k * 7) (.int .i64 xn)).set (k * 7 + 1) (.string xs)).set (k * 7 + 2) (.int .u64 a)).set (k * 7 + 3) (.int .i64 b)).set (k * 7 + 4) (.pointer none)).set (k * 7 + 5) (.string xt)).set (k * 7 + 6) (.string xu)
      have e1 : ((((((((es.take k).flatMap Ev.real ++ (zeroEv ++ zs (es.length - (k + 1)))).set (k * 7) (.int .i64 xn)).set (k * 7 + 1) (.string xs)).set (k * 7 + 2) (.int .u64 a)).set (k * 7 + 3) (.int .i64 b)).set (k * 7 + 4) (.pointer none)).set (k * 7 + 5) (.string xt)).set (k * 7 + 6) (.string xu) = (es.take (k + 1)).flatMap Ev.real ++ zs (es.length - (k + 1)) := by
        rw [← HR0.out, HA.out, HB.out]
        rfl
      rw [e1] at hR
      clear hd hrow hrow1 e1 hb hb1 hev
      have hz := Nat.le_refl w.heap.size
      go_wp2
      go_roundw
      case rel => exact ⟨k + 1, by omega, by go_num, hR, ((((((hbw.setCell hz _).setCell hz _).setCell hz _).setCell hz _).setCell hz _).setCell hz _).setCell hz _⟩
      case measure => simp [intOf]; omega
    · have hk' : k = es.length := by omega
      subst hk'
      rw [Nat.sub_self, zs, List.append_nil, List.take_length] at hrow
      go_wp2
      go_ret
      exact ⟨_, rfl, Nat.le_refl _, hrow, hb⟩

end Go.Proofs.Qxb6628314a

/-
  THE WALK of zzMap (7): the map that a list of pairs stands for.
-/
import Derived.Test.Qxb6628158aLeaf
import Derived.Maps.OwnSet
import Derived.Maps.StringElems
import Derived.BigRegion
namespace Go.Proofs.Qxb6628158a
open Go.RowKit Go.Maps Go.WideMaps Go.WideElems

theorem keyLaw : Keyed Try.prog 9 := string_keyed Try.underlying9
theorem zeroS (w : World) : (zeroValue 9).run Try.prog w = .ok (.string ⟨#[]⟩) w := by kernel_rfl
theorem eqnil22 (W : World) (a : Option Addr) (n c : Nat) : (binOp .eql 22 (.slice a n c) (.slice none 0 0)).run Try.prog W = .ok (.bool a.isNone) W := Lib.run_eql_slice_nil W 22 47 a n c 0 0 Try.underlying22

/-- A row of pairs. -/
def prCells (ps : List (ByteArray × ByteArray)) : List Value := ps.flatMap fun p => [.string p.1, .string p.2]
theorem prCells_length (ps : List (ByteArray × ByteArray)) : (prCells ps).length = ps.length * 2 := by
  induction ps with
  | nil => rfl
  | cons r rs ih => simp only [prCells, List.flatMap_cons, List.length_append, List.length_cons] at *; rw [ih]; simp; omega
theorem prCells_at (ps : List (ByteArray × ByteArray)) (j : Nat) (r : ByteArray × ByteArray) (h : ps[j]? = some r) : (prCells ps)[j * 2]? = some (.string r.1) ∧ (prCells ps)[j * 2 + 1]? = some (.string r.2) := by
  induction ps generalizing j with
  | nil => simp at h
  | cons a rs ih =>
    have e : prCells (a :: rs) = [.string a.1, .string a.2] ++ prCells rs := rfl
    have hl : [Value.string a.1, .string a.2].length = 2 := rfl
    cases j with
    | zero =>
      simp only [List.getElem?_cons_zero, Option.some.injEq] at h
      subst h
      exact ⟨rfl, rfl⟩
    | succ j =>
      simp only [List.getElem?_cons_succ] at h
      obtain ⟨h1, h2⟩ := ih j h
      rw [e]
      refine ⟨?_, ?_⟩
      · rw [List.getElem?_append_right (by omega), hl, show (j + 1) * 2 - 2 = j * 2 by omega]; exact h1
      · rw [List.getElem?_append_right (by omega), hl, show (j + 1) * 2 + 1 - 2 = j * 2 + 1 by omega]; exact h2

/-- What the map of the pairs reads as. -/
def dOf (ps : List (ByteArray × ByteArray)) : DataW Unit := ps.foldl (fun D p => D.put (.string p.1.data.toList) (.lit (.string p.2.data.toList))) (.map [])
def strOf : DataW Unit → ByteArray
  | .lit (.string l) => ⟨l.toArray⟩
  | _ => emp
/-- Is the key there? -/
def lb (ps : List (ByteArray × ByteArray)) (s : ByteArray) : Bool := Maps.has (dOf ps) (.string s.data.toList)
/-- What is there. -/
def lv (ps : List (ByteArray × ByteArray)) (s : ByteArray) : ByteArray := strOf ((dOf ps).atKey (.string s.data.toList) (.lit (.string [])))

/-- The map value mv answers look-ups as the pairs do, in w and in every later world. -/
def LookAt (w : World) (mv : Value) (ps : List (ByteArray × ByteArray)) : Prop :=
  ∀ W, Below w.heap.size w W → ∀ s : ByteArray, s.size ≤ maxLen → (Instr.lookup 33 mv (.string s) true).run Try.prog W = .ok (.tuple #[.string (lv ps s), .bool (lb ps s)]) W

theorem LookAt.on {w w' : World} {mv : Value} {ps : List (ByteArray × ByteArray)} (h : LookAt w mv ps) (hb : Below w.heap.size w w') : LookAt w' mv ps :=
  fun W hW s hs => h W (hb.trans (hW.mono hb.size)) s hs

theorem look_none (w : World) : LookAt w (.map none) [] := fun W _ s hs => by
  have := Maps.look_nil (w := W) true keyLaw Try.underlying33 (zeroS W) (keyOf_string_mk Try.underlying9 hs)
  exact this

theorem look_made {w : World} {b n : Nat} {ps : List (ByteArray × ByteArray)} (h : w.ownsMap Try.prog 9 (plainElem Try.prog 9) b n (dOf ps)) : LookAt w (.map (some b)) ps := fun W hW s hs => by
  have hW2 : W.ownsMap Try.prog 9 (plainElem Try.prog 9) b n (dOf ps) := by
    have hlt := h.lt
    obtain ⟨es, clock, hb, r⟩ := h
    exact ⟨es, clock, (hW.block b hlt).trans hb, r⟩
  obtain ⟨v, q, hrun, hv⟩ := hW2.look_ok keyLaw Try.underlying33 (zeroS W) (plainElem_string (H := Unit) Try.underlying9 (s := ⟨#[]⟩) (by decide)) (keyOf_string_mk Try.underlying9 hs)
  obtain ⟨t, rfl, ht, _⟩ := plainElem_string_inv Try.underlying9 hv
  simp only [Prod.mk.injEq] at ht
  rw [hrun]
  have e : lv ps s = t := by
    unfold lv
    have : (dOf ps).atKey (.string s.data.toList) (.lit (.string [])) = .lit (.string t.data.toList) := ht.1
    rw [this]
    cases t
    simp [strOf]
  rw [e]
  rfl

theorem makeMap33 (W : World) (n : Int) : (Instr.makeMap 33 (some (.int .i64 n))).run Try.prog W = .ok (.map (some W.heap.size)) (W.alloc (.map #[] 0)) := by
  simp [Instr.makeMap, run_underlying Try.underlying33, asInt, asIntOf]

theorem map_nil (w : World) : Calls Try.prog 7 #[.slice none 0 0] w fun e w' => e = .returned (.map none) ∧ w' = w := by
  have hq := eqnil22
  go_enter Try.func7, Try.ntmps7
  go_wp2
  go_ret
  exact ⟨rfl, rfl⟩

set_option maxHeartbeats 1000000 in
theorem map_some (ad : Addr) (c : Nat) (ps : List (ByteArray × ByteArray)) (w : World) (hl : ps.length ≤ 1048576) (hs : ∀ p ∈ ps, p.1.size ≤ maxLen ∧ p.2.size ≤ maxLen)
    (h : Sl w (.slice (some ad) ps.length c) ps.length 2 (prCells ps)) :
    Calls Try.prog 7 #[.slice (some ad) ps.length c] w fun e w' => ∃ b, e = .returned (.map (some b)) ∧ LookAt w' (.map (some b)) ps ∧ Below w.heap.size w w' := by
  have hq := eqnil22
  have hmm := makeMap33
  go_enter Try.func7, Try.ntmps7
  go_wp2
  go_loopw [4] (fun i wr => ∃ k : Nat, k ≤ ps.length ∧ i = .int .i64 k ∧ wr.ownsMap Try.prog 9 (plainElem Try.prog 9) w.heap.size k (dOf (ps.take k)) ∧ Below w.heap.size w wr) (fun i _ => ps.length - (intOf i).toNat)
  case atStart => exact ⟨0, Nat.zero_le _, rfl, World.ownsMap_made _ _ _ _, (Below.refl _ _).alloc (Nat.le_refl _) _⟩
  case round =>
    clear hmm hq
    obtain ⟨k, hk, rfl, hown, hb⟩ := hrel
    by_cases hlt : k < ps.length
    · obtain ⟨b1, o1, c1', e1, _, _, hc1⟩ := h.at (by rw [prCells_length]; omega)
      cases e1
      obtain ⟨x, hx⟩ : ∃ x, ps[k]? = some x := ⟨_, List.getElem?_eq_getElem hlt⟩
      obtain ⟨q0, q1⟩ := prCells_at ps k x hx
      have g0 : wr.cell? ⟨b1, o1 + k * 2, none⟩ = some (.string x.1) := (hb.cell (World.block_lt_of_cell? w _ (hc1 _ _ q0))).trans (hc1 _ _ q0)
      have g1 : wr.cell? ⟨b1, o1 + k * 2 + 1, none⟩ = some (.string x.2) := (hb.cell (World.block_lt_of_cell? w _ (hc1 _ _ q1))).trans (hc1 _ _ q1)
      have hxs := hs x (List.mem_of_getElem? hx)
      have hD : dOf (ps.take (k + 1)) = (dOf (ps.take k)).put (.string x.1.data.toList) (.lit (.string x.2.data.toList)) := by
        rw [List.take_add_one, hx]; simp [dOf]
      obtain ⟨w1, hrun, hown1, hg1⟩ := (hown.drew).update keyLaw Try.underlying33 (by unfold maxLen; omega) (keyOf_string_mk Try.underlying9 hxs.1) (plainElem_string (H := Unit) Try.underlying9 hxs.2)
      rw [← hD] at hown1
      have hi1 : (k : Int) < (ps.length : Int) := by omega
      clear hx q0 q1 hc1 hD
      go_wp2
      go_region
      have hb1 : Below w.heap.size w w1 := (hb.drew).grown hg1 hb.size (fun j hj => by cases hj; exact Nat.le_refl _)
      clear hg1 hrun hown hb g0 g1
      go_wp2
      go_roundw
      case rel => exact ⟨k + 1, by omega, by go_num, hown1, hb1⟩
      case measure => simp [intOf]; omega
    · rw [List.take_of_length_le (by omega)] at hown
      go_wp2
      go_ret
      exact ⟨_, rfl, look_made hown, hb⟩

/-- zzMap: nil for nil, else a new map that answers as the pairs do. -/
theorem map_any (v : Value) (ps : List (ByteArray × ByteArray)) (w : World) (hl : ps.length ≤ 1048576) (hs : ∀ p ∈ ps, p.1.size ≤ maxLen ∧ p.2.size ≤ maxLen) (h : Sl w v ps.length 2 (prCells ps)) :
    Calls Try.prog 7 #[v] w fun e w' => ∃ m, e = .returned (.map m) ∧ LookAt w' (.map m) ps ∧ Below w.heap.size w w' := by
  have h' := h
  rcases h with ⟨rfl, h1, h2⟩ | ⟨ad, c, rfl, h1, h2, h3⟩
  · have hp : ps = [] := List.eq_nil_of_length_eq_zero h1
    subst hp
    refine (map_nil w).mono ?_
    rintro e w' ⟨rfl, rfl⟩
    exact ⟨_, rfl, look_none _, Below.refl _ _⟩
  · refine (map_some ad c ps w hl hs h').mono ?_
    rintro e w' ⟨b, rfl, hr, hb⟩
    exact ⟨_, rfl, hr, hb⟩

end Go.Proofs.Qxb6628158a

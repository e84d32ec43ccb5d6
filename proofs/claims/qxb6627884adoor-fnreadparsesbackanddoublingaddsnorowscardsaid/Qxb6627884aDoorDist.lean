/-
  THE WALK of zzDistinct (function 8): it counts the distinct keys: a copy is sorted by insertion, its runs are counted.
-/
import Derived.Test.Qxb6627884aDoorProg
import Derived.Test.Qxb6627884aDoorPlain
import Derived.Test.Qxb6627884aDoorMem
import Derived.RegionTactic
import Derived.ChangeAlike
import Derived.Deep.QuietTactic
import Derived.BigQuiet
namespace Go.Proofs.Qxb6627884aDoor
open Go.RowKit

theorem Tryd.info3 : (Tryd.prog.info? 3).map (fun i => (i.zero, i.size, i.bytes)) = some (some (.int .i64 0), 1, 8) := by kernel_rfl

theorem getD_at (l : List Int) (j : Nat) (h : j < l.length) : l.getD j 0 = l[j] := by simp [h]

/-- Numbers as cells. -/
def ints (l : List Int) : List Value := l.map (Value.int .i64)
theorem ints_length (l : List Int) : (ints l).length = l.length := by simp [ints]
theorem ints_at (l : List Int) (j : Nat) (h : j < l.length) : (ints l)[j]? = some (.int .i64 (l.getD j 0)) := by simp [ints, h]
theorem ints_set (l : List Int) (j : Nat) (x : Int) : (ints l).set j (.int .i64 x) = ints (l.set j x) := by simp [ints]
theorem ints_replicate (n : Nat) : List.replicate n (Value.int .i64 0) = ints (List.replicate n 0) := by simp [ints]

/-- The copy's state: the first k are there. -/
def part (ks : List Int) (k : Nat) : List Int := ks.take k ++ List.replicate (ks.length - k) 0
theorem part_zero (ks : List Int) : part ks 0 = List.replicate ks.length 0 := by simp [part]
theorem part_full (ks : List Int) (k : Nat) (h : ks.length ≤ k) : part ks k = ks := by
  unfold part
  rw [List.take_of_length_le h, show ks.length - k = 0 by omega]
  simp
theorem part_set (ks : List Int) (k : Nat) (h : k < ks.length) : (part ks k).set k (ks.getD k 0) = part ks (k + 1) := by
  unfold part
  rw [List.set_append_right _ _ (by simp; omega), show ks.length - k = (ks.length - (k + 1)) + 1 by omega, List.replicate_succ]
  have e : k - (ks.take k).length = 0 := by simp; omega
  rw [e, List.set_cons_zero, List.take_succ_eq_append_getElem h, getD_at _ _ h, List.append_assoc]
  rfl

/-- The row while an element is let in: the hole at j. -/
def hole (P S : List Int) (j : Nat) (h : Int) : List Int := P.take j ++ h :: (P.drop j ++ S)
theorem hole_start (L : List Int) (k : Nat) (h : k < L.length) : hole (L.take k) (L.drop (k + 1)) k (L.getD k 0) = L := by
  unfold hole
  have e1 : (L.take k).take k = L.take k := by simp [List.take_take]
  have e2 : (L.take k).drop k = [] := by simp
  rw [e1, e2, List.nil_append]
  have e3 : L.drop k = L.getD k 0 :: L.drop (k + 1) := by
    rw [List.drop_eq_getElem_cons h]; simp [h]
  rw [← e3, List.take_append_drop]
theorem hole_length (P S : List Int) (j : Nat) (h : Int) (hj : j ≤ P.length) : (hole P S j h).length = P.length + 1 + S.length := by
  simp [hole]; omega
theorem hole_set (P S : List Int) (j : Nat) (h x : Int) (hj : j ≤ P.length) : (hole P S j h).set j x = hole P S j x := by
  unfold hole
  rw [List.set_append_right _ _ (by simp; omega)]
  have e : j - (P.take j).length = 0 := by simp; omega
  rw [e, List.set_cons_zero]
theorem hole_before (P S : List Int) (j : Nat) (h : Int) (hj : j + 1 ≤ P.length) : (hole P S (j + 1) h).getD j 0 = P.getD j 0 := by
  unfold hole
  have hj' : j < P.length := by omega
  have hl : j < (P.take (j + 1)).length := by simp; omega
  rw [getD_at _ _ (by simp; omega), List.getElem_append_left hl, getD_at _ _ hj', List.getElem_take]
theorem hole_down (P S : List Int) (j : Nat) (hj : j + 1 ≤ P.length) : hole P S (j + 1) (P.getD j 0) = hole P S j (P.getD j 0) := by
  unfold hole
  have hj' : j < P.length := by omega
  rw [List.take_succ_eq_append_getElem hj', List.drop_eq_getElem_cons hj', getD_at _ _ hj', List.append_assoc]
  rfl
theorem hole_perm (P S : List Int) (j : Nat) (x : Int) : (hole P S j x).Perm (P ++ x :: S) := by
  unfold hole
  have h1 : (P.take j ++ x :: (P.drop j ++ S)).Perm (x :: (P.take j ++ (P.drop j ++ S))) := List.perm_middle
  have h2 : (P ++ x :: S).Perm (x :: (P ++ S)) := List.perm_middle
  rw [← List.append_assoc, List.take_append_drop] at h1
  exact h1.trans h2.symm
theorem hole_take (P S : List Int) (j : Nat) (x : Int) (hj : j ≤ P.length) : (hole P S j x).take (P.length + 1) = P.take j ++ x :: P.drop j := by
  unfold hole
  have e : P.take j ++ x :: (P.drop j ++ S) = (P.take j ++ x :: P.drop j) ++ S := by simp
  rw [e]
  exact List.take_left' (by simp; omega)

theorem srt_take_one (L : List Int) : Srt (L.take 1) := by
  cases L with
  | nil => simp [Srt]
  | cons x xs => simp [Srt]

/-- One more element let in. -/
theorem round_done (L ks : List Int) (k j : Nat) (hk : k < L.length) (hj : j ≤ k) (hp : L.Perm ks) (hs : Srt (L.take k)) (hgt : ∀ y ∈ (L.take k).drop j, L.getD k 0 < y)
    (hle : j = 0 ∨ ¬ L.getD k 0 < (L.take k).getD (j - 1) 0) :
    (hole (L.take k) (L.drop (k + 1)) j (L.getD k 0)).Perm ks ∧ Srt ((hole (L.take k) (L.drop (k + 1)) j (L.getD k 0)).take (k + 1)) := by
  have hl : (L.take k).length = k := by simp; omega
  constructor
  · refine (hole_perm _ _ _ _).trans ?_
    have e3 : L.drop k = L.getD k 0 :: L.drop (k + 1) := by
      rw [List.drop_eq_getElem_cons hk]; simp [hk]
    rw [← e3, List.take_append_drop]
    exact hp
  · have e := hole_take (L.take k) (L.drop (k + 1)) j (L.getD k 0) (by omega)
    rw [hl] at e
    rw [e]
    refine srt_insert _ _ _ hs hgt ?_ (by omega)
    rcases hle with h | h
    · exact .inl h
    · by_cases h0 : j = 0
      · exact .inl h0
      · right
        have hlt : j - 1 < (L.take k).length := by omega
        refine ⟨(L.take k)[j - 1], List.getElem?_eq_getElem hlt, ?_⟩
        rw [getD_at _ _ hlt] at h
        omega

theorem gt_step (P : List Int) (j : Nat) (x : Int) (hj : j + 1 ≤ P.length) (hgt : ∀ y ∈ P.drop (j + 1), x < y) (h : x < P.getD j 0) : ∀ y ∈ P.drop j, x < y := by
  have hj' : j < P.length := by omega
  rw [List.drop_eq_getElem_cons hj']
  intro y hy
  rcases List.mem_cons.1 hy with rfl | hy
  · rw [getD_at _ _ hj'] at h; exact h
  · exact hgt y hy

/-- The count's step. -/
theorem count_step (L : List Int) (i : Nat) (hi : i < L.length) (hs : Srt L) : dCount (L.take (i + 1)) = dCount (L.take i) + if i = 0 ∨ L.getD i 0 ≠ L.getD (i - 1) 0 then 1 else 0 := by
  rw [List.take_succ_eq_append_getElem hi, dCount_snoc]
  have hss : Srt (L.take i ++ [L[i]]) := by
    rw [← List.take_succ_eq_append_getElem hi]
    exact hs.sublist (List.take_sublist _ _)
  rw [srt_contains _ _ hss]
  by_cases h0 : i = 0
  · subst h0; simp
  · have hi1 : i - 1 < L.length := by omega
    have e : (L.take i).getLast? = some L[i - 1] := by
      rw [List.getLast?_eq_getElem?]
      simp only [List.length_take]
      rw [show min i L.length - 1 = i - 1 by omega, List.getElem?_take]
      rw [if_pos (by omega), List.getElem?_eq_getElem hi1]
    rw [e, getD_at _ _ hi, getD_at _ _ hi1]
    by_cases hh : L[i] = L[i - 1]
    · simp [hh, h0]
    · have : ¬ L[i - 1] = L[i] := fun h => hh h.symm
      simp [hh, this]

end Go.Proofs.Qxb6627884aDoor

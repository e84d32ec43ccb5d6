/-
  THE PLAIN LAWS of seat b6627884aD: no Go in sight: the SELECT's text, the count of distinct keys, the insertion sort, the digits.
-/
import Derived.Lib.ItoaNum
import Derived.Lib.ItoaLen
namespace Go.Proofs.Qxb6627884aDoor
open Go.Lib (decDigits itoa nDigits)

/-! ### The SELECT's text -/
def selHead : List UInt8 := [83, 69, 76, 69, 67, 84, 32, 105, 100, 44, 32, 118, 97, 108, 117, 101, 32, 70, 82, 79, 77, 32, 114, 101, 99, 111, 114, 100, 115, 32, 87, 72, 69, 82, 69, 32, 105, 100, 32, 73, 78, 32, 40]

/-- The keys in decimal, ", " between them. -/
def joinD : List Int → List UInt8
  | [] => []
  | k :: ks => itoa k ++ ks.flatMap fun k => [44, 32] ++ itoa k

def selText (ks : List Int) : List UInt8 := selHead ++ joinD ks ++ [41]

theorem joinD_snoc (ks : List Int) (k : Int) : joinD (ks ++ [k]) = joinD ks ++ ((if ks.isEmpty then [] else [44, 32]) ++ itoa k) := by
  cases ks with
  | nil => simp [joinD]
  | cons x xs => simp [joinD, List.flatMap_append]

/-- An int64. -/
def I64 (x : Int) : Prop := -9223372036854775808 ≤ x ∧ x ≤ 9223372036854775807

theorem decDigits_le (u : Nat) (h : u < 18446744073709551616) : (decDigits u).length ≤ 20 := by
  rw [Lib.decDigits_length]; exact Lib.nDigits_le20 u h

theorem nDigits_le19 (u : Nat) (h : u < 10 ^ 19) : nDigits u ≤ 19 := by
  rcases Nat.lt_or_ge (nDigits u) 20 with h1 | h1
  · omega
  · exfalso
    have key : ∀ k v, k + 1 ≤ nDigits v → 10 ^ k ≤ v ∨ k = 0 := by
      intro k
      induction k with
      | zero => intro v _; exact .inr rfl
      | succ k ih =>
        intro v hv
        by_cases h10 : v < 10
        · rw [Lib.nDigits_small h10] at hv; omega
        · rw [Lib.nDigits_big h10] at hv
          rcases ih (v / 10) (by omega) with h2 | h2
          · left; rw [Nat.pow_succ]; omega
          · subst h2; left; simp; omega
    rcases key 19 u h1 with h2 | h2 <;> omega

/-- At most 20 bytes. -/
theorem itoa_le20 (x : Int) (h : I64 x) : (itoa x).length ≤ 20 := by
  obtain ⟨h0, h1⟩ := h
  unfold itoa
  split
  · have := nDigits_le19 x.natAbs (by omega)
    simp [Lib.decDigits_length]; omega
  · exact decDigits_le _ (by omega)

theorem itoa_pos (x : Int) : 1 ≤ (itoa x).length := by
  unfold itoa
  split
  · simp
  · rw [Lib.decDigits_length]; exact Lib.nDigits_pos _

theorem joinD_le (ks : List Int) (h : ∀ k ∈ ks, I64 k) : (joinD ks).length ≤ 22 * ks.length := by
  have key : ∀ l : List Int, (∀ k ∈ l, I64 k) → (l.flatMap fun k => [44, 32] ++ itoa k).length ≤ 22 * l.length := by
    intro l
    induction l with
    | nil => intro _; simp
    | cons x xs ih =>
      intro hl
      have h1 := itoa_le20 x (hl x (by simp))
      have h2 := ih (fun k hk => hl k (by simp [hk]))
      simp only [List.flatMap_cons, List.length_append, List.length_cons, List.length_nil] at *
      omega
  cases ks with
  | nil => simp [joinD]
  | cons x xs =>
    have h1 := itoa_le20 x (h x (by simp))
    have h2 := key xs (fun k hk => h k (by simp [hk]))
    simp only [joinD, List.length_append, List.length_cons] at *
    omega

/-! ### The count of distinct keys -/
/-- Distinct values of a list, told from its end. -/
def dR : List Int → Nat
  | [] => 0
  | x :: xs => dR xs + if xs.contains x then 0 else 1

/-- Distinct values of a list. -/
def dCount (l : List Int) : Nat := dR l.reverse

theorem dCount_snoc (l : List Int) (x : Int) : dCount (l ++ [x]) = dCount l + if l.contains x then 0 else 1 := by
  simp [dCount, dR]

theorem dR_perm {l l' : List Int} (h : l.Perm l') : dR l = dR l' := by
  induction h with
  | nil => rfl
  | @cons x l1 l2 hp ih =>
    simp only [dR, ih]
    have : l1.contains x = l2.contains x := by
      rw [Bool.eq_iff_iff]
      simp only [List.contains_iff_mem]
      exact hp.mem_iff (a := x)
    rw [this]
  | swap x y l =>
    simp only [dR]
    by_cases e : x = y
    · subst e; rfl
    · have e' : ¬ y = x := fun h => e h.symm
      simp only [List.contains_cons]
      have h1 : (x == y) = false := by simpa using e
      have h2 : (y == x) = false := by simpa using e'
      rw [h1, h2]
      simp only [Bool.false_or]
      omega
  | trans _ _ ih1 ih2 => exact ih1.trans ih2

theorem dCount_perm {l l' : List Int} (h : l.Perm l') : dCount l = dCount l' :=
  dR_perm ((List.reverse_perm l).trans (h.trans (List.reverse_perm l').symm))

theorem dCount_le (l : List Int) : dCount l ≤ l.length := by
  have key : ∀ l : List Int, dR l ≤ l.length := by
    intro l
    induction l with
    | nil => simp [dR]
    | cons x xs ih => simp only [dR, List.length_cons]; split <;> omega
  have := key l.reverse
  simpa [dCount] using this

/-- Doubling adds no new value. -/
theorem dCount_append_sub (l r : List Int) (h : ∀ x ∈ r, x ∈ l) : dCount (l ++ r) = dCount l := by
  have key : ∀ r : List Int, (∀ x ∈ r, x ∈ l) → dCount (l ++ r.reverse) = dCount l := by
    intro r
    induction r with
    | nil => intro _; simp
    | cons x xs ih =>
      intro hr
      rw [List.reverse_cons, ← List.append_assoc, dCount_snoc, ih (fun y hy => hr y (by simp [hy]))]
      have : (l ++ xs.reverse).contains x = true := by
        rw [List.contains_iff_mem]
        exact List.mem_append_left _ (hr x (by simp))
      rw [this]; simp
  have := key r.reverse (by simpa using h)
  simpa using this

/-! ### The insertion sort -/
def Srt (l : List Int) : Prop := l.Pairwise (· ≤ ·)

/-- In a sorted list an element was met before just where the one ahead of it is its equal. -/
theorem srt_contains (l : List Int) (x : Int) (h : Srt (l ++ [x])) : l.contains x = (l.getLast? == some x) := by
  rw [Bool.eq_iff_iff, List.contains_iff_mem, beq_iff_eq]
  constructor
  · intro hm
    rcases List.eq_nil_or_concat l with rfl | ⟨l', y, rfl⟩
    · simp at hm
    · simp only [List.concat_eq_append] at *
      rw [List.getLast?_concat]
      have hyx : y ≤ x := by
        have := List.pairwise_append.1 h
        exact this.2.2 y (by simp) x (by simp)
      rcases List.mem_append.1 hm with h1 | h1
      · have hxy : x ≤ y := by
          have := (List.pairwise_append.1 (List.pairwise_append.1 h).1).2.2 x h1 y (by simp)
          exact this
        congr 1; omega
      · simp at h1; rw [h1]
  · intro hl
    exact List.mem_of_getLast? hl

theorem srt_insert (P : List Int) (x : Int) (j : Nat) (hs : Srt P) (hgt : ∀ y ∈ P.drop j, x < y) (hle : j = 0 ∨ ∃ y, P[j - 1]? = some y ∧ y ≤ x) (hj : j ≤ P.length) :
    Srt (P.take j ++ x :: P.drop j) := by
  unfold Srt at *
  rw [List.pairwise_append]
  refine ⟨hs.sublist (List.take_sublist _ _), ?_, ?_⟩
  · rw [List.pairwise_cons]
    exact ⟨fun y hy => Int.le_of_lt (hgt y hy), hs.sublist (List.drop_sublist _ _)⟩
  · intro a ha b hb
    rcases List.mem_cons.1 hb with rfl | hb
    · rcases hle with rfl | ⟨y, hy, hyx⟩
      · simp at ha
      · obtain ⟨i, hi, rfl⟩ := List.mem_iff_getElem.1 ha
        have hi' : i < j := by simp at hi; omega
        have hjl : j - 1 < P.length := by omega
        have hy2 : P[j - 1] = y := by rw [List.getElem?_eq_getElem hjl] at hy; simpa using hy
        simp only [List.getElem_take]
        rcases Nat.lt_or_ge i (j - 1) with h1 | h1
        · have := List.pairwise_iff_getElem.1 hs i (j - 1) (by omega) hjl h1
          omega
        · have : i = j - 1 := by omega
          subst this; omega
    · have hap := List.pairwise_append.1 (by rw [List.take_append_drop]; exact hs : (P.take j ++ P.drop j).Pairwise (· ≤ ·))
      exact hap.2.2 a ha b hb

end Go.Proofs.Qxb6627884aDoor

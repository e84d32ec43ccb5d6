/-
  PLAIN LAWS for the second law of seat b6627884aD: reading a SELECT's text back.
-/
import Derived.Test.Qxb6627884aDoorPlain
namespace Go.Proofs.Qxb6627884aDoor
open Go.Lib (decDigits itoa nDigits)

/-- The number that a row of digits spells. -/
def val (l : List UInt8) : Nat := l.foldl (fun a c => a * 10 + (c.toNat - 48)) 0

theorem val_snoc (l : List UInt8) (c : UInt8) : val (l ++ [c]) = val l * 10 + (c.toNat - 48) := by simp [val]

theorem val_take_succ (l : List UInt8) (t : Nat) (h : t < l.length) : val (l.take (t + 1)) = val (l.take t) * 10 + ((l[t]).toNat - 48) := by
  rw [List.take_succ_eq_append_getElem h, val_snoc]

theorem digit_toNat (u : Nat) (h : u < 10) : (UInt8.ofNat (48 + u)).toNat = 48 + u := by simp; omega

theorem decDigits_ge {u : Nat} (h : ¬ u < 10) : decDigits u = decDigits (u / 10) ++ [UInt8.ofNat (48 + u % 10)] := by rw [decDigits, dif_neg h]

theorem val_dec (u : Nat) : val (decDigits u) = u := by
  induction u using Nat.strongRecOn with
  | _ u ih =>
    by_cases h : u < 10
    · rw [Lib.decDigits_one h]
      have := digit_toNat u h
      simp only [val, List.foldl_cons, List.foldl_nil]
      omega
    · rw [decDigits_ge h, val_snoc, ih (u / 10) (by omega), digit_toNat (u % 10) (by omega)]
      omega

theorem dec_digit (u : Nat) : ∀ c ∈ decDigits u, 48 ≤ c.toNat ∧ c.toNat ≤ 57 := by
  induction u using Nat.strongRecOn with
  | _ u ih =>
    by_cases h : u < 10
    · rw [Lib.decDigits_one h]
      intro c hc
      rw [List.mem_singleton] at hc
      subst hc
      rw [digit_toNat u h]
      omega
    · rw [decDigits_ge h]
      intro c hc
      rcases List.mem_append.1 hc with h1 | h1
      · exact ih (u / 10) (by omega) c h1
      · rw [List.mem_singleton] at h1
        subst h1
        rw [digit_toNat (u % 10) (by omega)]
        omega

theorem val_take_le (l : List UInt8) (t : Nat) : val (l.take t) ≤ val l := by
  have key : ∀ (r l : List UInt8), val l ≤ val (l ++ r) := by
    intro r
    induction r with
    | nil => intro l; simp
    | cons c r ih =>
      intro l
      have h1 := ih (l ++ [c])
      rw [val_snoc] at h1
      have e : l ++ [c] ++ r = l ++ c :: r := by simp
      rw [e] at h1
      omega
  have := key (l.drop t) (l.take t)
  rwa [List.take_append_drop] at this

/-- What follows a key. -/
def tailD (ks : List Int) : List UInt8 := ks.flatMap fun k => [44, 32] ++ itoa k

theorem joinD_cons (k : Int) (ks : List Int) : joinD (k :: ks) = itoa k ++ tailD ks := rfl
theorem tailD_nil : tailD [] = [] := rfl
theorem tailD_cons (k : Int) (ks : List Int) : tailD (k :: ks) = 44 :: 32 :: joinD (k :: ks) := by simp [tailD, joinD]

/-- A number's sign. -/
def sgn (x : Int) : List UInt8 := if x < 0 then [45] else []
theorem itoa_sgn (x : Int) : itoa x = sgn x ++ decDigits x.natAbs := by
  unfold itoa sgn
  split
  · rfl
  · have : x.toNat = x.natAbs := by omega
    rw [this]; rfl

theorem joinD_pos (k : Int) (ks : List Int) : 1 ≤ (joinD (k :: ks)).length := by
  rw [joinD_cons, List.length_append]
  have := itoa_pos k
  omega

/-- The keys' text at key m: what stands there. -/
theorem joinD_drop (ks : List Int) (m : Nat) (h : m < ks.length) : joinD (ks.drop m) = sgn (ks.getD m 0) ++ (decDigits (ks.getD m 0).natAbs ++ tailD (ks.drop (m + 1))) := by
  have e : ks.getD m 0 = ks[m] := by simp [h]
  rw [List.drop_eq_getElem_cons h, joinD_cons, itoa_sgn, e, List.append_assoc]

theorem tailD_drop (ks : List Int) (m : Nat) (h : m < ks.length) : tailD (ks.drop m) = 44 :: 32 :: joinD (ks.drop m) := by
  rw [List.drop_eq_getElem_cons h, tailD_cons]

theorem selText_length (ks : List Int) : (selText ks).length = 44 + (joinD ks).length := by
  unfold selText
  simp only [List.length_append]
  have : selHead.length = 43 := rfl
  simp
  omega

end Go.Proofs.Qxb6627884aDoor

/-
  THE PLAIN LAW: what the selector that was given asks for, and that it asks for nothing more when it is asked again.
-/
import Derived.Test.Qxb6628158aSel
namespace Go.Proofs.Qxb6628158a
open Go.RowKit

/-- What the first answer is: the own requirements in front, at most one more a key, every carried key held, nothing left to add. -/
structure Kept (ls : List (ByteArray × ByteArray)) (keys : List ByteArray) (rs qs1 : List Rq) : Prop where
  front : ∀ (i : Nat) (r q : Rq), rs[i]? = some r → qs1[i]? = some q → q.told = r.told
  le : rs.length ≤ qs1.length
  most : qs1.length ≤ rs.length + keys.length
  held : ∀ k ∈ keys, lb ls k = true → ∃ r ∈ qs1, hit k (lv ls k) r
  none : keys.filter (lacks ls qs1) = []

theorem same_iff (ls : List (ByteArray × ByteArray)) (k : ByteArray) (r : Rq) : same (ask ls k) r = true ↔ r.told = (ask ls k).told := by
  unfold same ask Rq.told
  simp only [decide_eq_true_eq, Prod.mk.injEq]
  constructor
  · rintro ⟨h1, h2, h3⟩; exact ⟨h1.symm, h2.symm, h3.symm⟩
  · rintro ⟨h1, h2, h3⟩; exact ⟨h1.symm, h2.symm, h3.symm⟩

theorem told_at {qs rs : List Rq} (h : qs.map Rq.told = rs.map Rq.told) {i : Nat} {r q : Rq} (hr : rs[i]? = some r) (hq : qs[i]? = some q) : q.told = r.told := by
  have h1 : (qs.map Rq.told)[i]? = some q.told := by rw [List.getElem?_map, hq]; rfl
  have h2 : (rs.map Rq.told)[i]? = some r.told := by rw [List.getElem?_map, hr]; rfl
  rw [h, h2] at h1
  exact (Option.some.inj h1).symm

theorem kept_of {ls : List (ByteArray × ByteArray)} {keys : List ByteArray} {rs qs ws : List Rq} (hqs : qs.map Rq.told = rs.map Rq.told) (hws : ws.map Rq.told = (keys.filter (lacks ls qs)).map fun k => (ask ls k).told) : Kept ls keys rs (qs ++ ws) := by
  have hl : qs.length = rs.length := by have := congrArg List.length hqs; simpa using this
  have hlw : ws.length ≤ keys.length := by
    have := congrArg List.length hws
    simp only [List.length_map] at this
    rw [this]
    exact List.length_filter_le _ _
  have key : ∀ k ∈ keys, lb ls k = true → ∃ r ∈ qs ++ ws, r.told = (ask ls k).told := by
    intro k hk hb
    by_cases h : lacks ls qs k = true
    · have : (ask ls k).told ∈ (keys.filter (lacks ls qs)).map fun k => (ask ls k).told := List.mem_map_of_mem (f := fun k => (ask ls k).told) (List.mem_filter.2 ⟨hk, h⟩)
      rw [← hws] at this
      obtain ⟨r, hr, he⟩ := List.mem_map.1 this
      exact ⟨r, List.mem_append.2 (.inr hr), he⟩
    · unfold lacks at h
      rw [hb, Bool.true_and] at h
      have h2 : qs.any (same (ask ls k)) = true := by cases hh : qs.any (same (ask ls k)) <;> simp_all
      obtain ⟨r, hr, hs⟩ := List.any_eq_true.1 h2
      exact ⟨r, List.mem_append.2 (.inl hr), (same_iff ls k r).1 hs⟩
  refine ⟨?_, ?_, ?_, ?_, ?_⟩
  · intro i r q hr hq
    have hi : i < rs.length := (List.getElem?_eq_some_iff.1 hr).1
    rw [List.getElem?_append_left (by omega)] at hq
    exact told_at hqs hr hq
  · simp; omega
  · simp; omega
  · intro k hk hb
    obtain ⟨r, hr, he⟩ := key k hk hb
    refine ⟨r, hr, ?_⟩
    unfold Rq.told ask at he
    simp only [Prod.mk.injEq] at he
    exact he
  · rw [List.filter_eq_nil_iff]
    intro k hk h
    unfold lacks at h
    rw [Bool.and_eq_true] at h
    obtain ⟨r, hr, he⟩ := key k hk h.1
    have : (qs ++ ws).any (same (ask ls k)) = true := List.any_eq_true.2 ⟨r, hr, (same_iff ls k r).2 he⟩
    rw [this] at h
    simp at h

/-- The first asking. -/
theorem sel_first (n : Int) (t u : ByteArray) (p : Nat) (ka : Option Addr) (kc : Nat) (q1 q2 q3 : Option Addr) (mv : Value) (keys : List ByteArray) (ls : List (ByteArray × ByteArray)) (rs qs : List Rq) (w : World)
    (hk : keys.length ≤ 4096) (hks : Sl w (.slice ka keys.length kc) keys.length 1 (strs keys)) (hkz : ∀ k ∈ keys, k.size ≤ maxLen) (hq : rs.length ≤ 4096) (hqs : qs.map Rq.told = rs.map Rq.told) (hs : SelAt w p qs) (hm : LookAt w mv ls) :
    Calls Try.prog 8 #[.agg #[.int .i32 n, .string t, .string u, .pointer (some ⟨p, 0, none⟩), .slice ka keys.length kc, .pointer q1, .pointer q2, .pointer q3], mv] w fun e w' => ∃ p1 qs1, e = .returned (.pointer (some ⟨p1, 0, none⟩)) ∧ SelAt w' p1 qs1 ∧ Kept ls keys rs qs1 ∧ Below w.heap.size w w' := by
  have hl : qs.length = rs.length := by have := congrArg List.length hqs; simpa using this
  refine (sel_some n t u p ka kc q1 q2 q3 mv keys ls qs w hk hks hkz (by omega) hs hm).mono ?_
  rintro e w' ⟨hb, ⟨h1, rfl⟩ | ⟨p', ws, rfl, h2, _, h3⟩⟩
  · exact ⟨p, qs, rfl, hs.on hb, by simpa using kept_of (ls := ls) (keys := keys) (ws := []) hqs (by rw [h1]; rfl), hb⟩
  · exact ⟨p', _, rfl, h2, kept_of hqs h3, hb⟩

/-- The second asking. -/
theorem sel_again (n : Int) (t u : ByteArray) (p : Nat) (ka : Option Addr) (kc : Nat) (q1 q2 q3 : Option Addr) (mv : Value) (keys : List ByteArray) (ls : List (ByteArray × ByteArray)) (rs qs : List Rq) (w : World)
    (hk : keys.length ≤ 4096) (hks : Sl w (.slice ka keys.length kc) keys.length 1 (strs keys)) (hkz : ∀ k ∈ keys, k.size ≤ maxLen) (hq : rs.length ≤ 4096) (hK : Kept ls keys rs qs) (hs : SelAt w p qs) (hm : LookAt w mv ls) :
    Calls Try.prog 8 #[.agg #[.int .i32 n, .string t, .string u, .pointer (some ⟨p, 0, none⟩), .slice ka keys.length kc, .pointer q1, .pointer q2, .pointer q3], mv] w fun e w' => e = .returned (.pointer (some ⟨p, 0, none⟩)) ∧ Below w.heap.size w w' := by
  have := hK.most
  refine (sel_some n t u p ka kc q1 q2 q3 mv keys ls qs w hk hks hkz (by omega) hs hm).mono ?_
  rintro e w' ⟨hb, ⟨h1, rfl⟩ | ⟨p', ws, rfl, h2, h4, h3⟩⟩
  · exact ⟨rfl, hb⟩
  · rw [hK.none] at h3
    have := congrArg List.length h3
    simp at this
    subst this
    simp at h4

end Go.Proofs.Qxb6628158a

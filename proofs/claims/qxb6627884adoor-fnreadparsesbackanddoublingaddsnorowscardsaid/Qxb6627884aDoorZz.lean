/-
  THE WALK of bench.ZZread (6).
-/
import Derived.Test.Qxb6627884aDoorRead
import Derived.Deep.RegionHeld3
namespace Go.Proofs.Qxb6627884aDoor
open Go.RowKit
open Go.Lib (decDigits itoa nDigits byteCells)

/-- The slice value kv reads as the numbers ks, in blocks below B. -/
def KeysAt (B : Nat) (w : World) (kv : Value) (ks : List Int) : Prop :=
  (kv = .slice none 0 0 ∧ ks = []) ∨ ∃ kb off c, kv = .slice (some ⟨kb, off, none⟩) ks.length c ∧ ks.length ≤ c ∧ kb < B ∧ ∀ j, j < ks.length → w.cell? ⟨kb, off + j, none⟩ = some (.int .i64 (ks.getD j 0))

theorem KeysAt.on {B B2 : Nat} {w w' : World} {kv : Value} {ks : List Int} (h : KeysAt B w kv ks) (hb : Below B w w') (hB : B ≤ B2) : KeysAt B2 w' kv ks := by
  rcases h with h | ⟨kb, off, c, h1, h2, h3, h4⟩
  · exact .inl h
  · exact .inr ⟨kb, off, c, h1, h2, by omega, fun j hj => (hb.cell (by exact h3)).trans (h4 j hj)⟩

theorem read_any (B b : Nat) (kv : Value) (pre : List UInt8) (ks : List Int) (w : World) (h : Bd B b (byteCells pre) w) (hBw : B ≤ w.heap.size)
    (hpre : pre.length ≤ 1048576) (hl : ks.length ≤ 8192) (hI : ∀ x ∈ ks, I64 x) (hk : KeysAt B w kv ks)
    (htab : Lib.TabBelow Tryd.prog B w powName .u64 Lib.pow10Tab) :
    Calls Tryd.prog 13 #[.pointer (some ⟨b, 0, none⟩), kv] w fun e w' =>
      e = .returned (.agg #[.string ⟨(selText ks).toArray⟩, .bool true, .int .i64 (dCount ks)]) ∧ Bd B b (byteCells (pre ++ selText ks)) w' ∧ Below B w w' := by
  rcases hk with ⟨rfl, rfl⟩ | ⟨kb, off, c, rfl, hc, hkb, hcells⟩
  · exact read_nil B b pre w h hBw hpre
  · exact read_some B b kb off c pre ks w h hBw hpre hl hc hI hcells hkb htab

set_option maxHeartbeats 3000000 in
set_option maxRecDepth 100000 in
theorem zzread_any (kv : Value) (pre : List UInt8) (ks : List Int) (w : World) (hpre : pre.length ≤ 1048576) (hl : ks.length ≤ 8192) (hI : ∀ x ∈ ks, I64 x) (hk : KeysAt w.heap.size w kv ks)
    (htab : Lib.TabBelow Tryd.prog w.heap.size w powName .u64 Lib.pow10Tab) :
    Calls Tryd.prog 6 #[.string ⟨pre.toArray⟩, kv] w fun e w' =>
      e = .returned (.tuple #[.string ⟨(pre ++ selText ks).toArray⟩, .string ⟨(selText ks).toArray⟩, .bool true, .int .i64 (dCount ks)]) ∧ Below w.heap.size w w' := by
  have hbd0 : Bd w.heap.size w.heap.size [] (w.alloc (.cells #[.pointer none, .slice none 0 0] 35)) :=
    .inl ⟨Nat.le_refl _, .slice none 0 0, heap_alloc_new w _, World.ownsRowF_nil _ _ _ _, by simp [Value.ownBlock]⟩
  have hb0 : Below w.heap.size w (w.alloc (.cells #[.pointer none, .slice none 0 0] 35)) := (Below.refl _ _).alloc (Nat.le_refl _) _
  go_enter Tryd.func6, Tryd.ntmps6
  go_wp2_with fail
  refine (writeString_any w.heap.size w.heap.size [] ⟨pre.toArray⟩ _ hbd0 (by show 0 + pre.length ≤ _; omega) (by simp)).mono ?_
  rintro e w1 ⟨rfl, hbd1, hk1⟩
  have hb1 := hb0.trans hk1.1
  have hs1 := hb1.size
  rw [strCells_bytes, List.nil_append] at hbd1
  clear hk1
  go_wp2_with fail
  refine (read_any w.heap.size w.heap.size kv pre ks w1 hbd1 hs1 hpre hl hI (hk.on hb1 (Nat.le_refl _)) (htab.on hb1)).mono ?_
  rintro e w2 ⟨rfl, hbd2, hb2⟩
  have hb2' := hb1.trans hb2
  clear hb2 hb1 hbd1
  obtain ⟨st, hst⟩ : ∃ st, st = selText ks := ⟨_, rfl⟩
  rw [← hst] at hbd2 ⊢
  have hs2 := hb2'.size
  have HST := Lib.hid hst
  clear hst
  obtain ⟨wA, hwA⟩ : ∃ x, x = w2.alloc (.cells #[.string ⟨st.toArray⟩, .bool true, .int .i64 (dCount ks)] 41) := ⟨_, rfl⟩
  have hRA : Row wA w2.heap.size 41 [.string ⟨st.toArray⟩, .bool true, .int .i64 (dCount ks)] := by rw [hwA]; exact Row.new w2 41 _
  have hbdA : Bd w.heap.size w.heap.size (byteCells (pre ++ st)) wA := by rw [hwA]; exact hbd2.alloc _
  have hbA : Below w.heap.size w wA := by rw [hwA]; exact hb2'.alloc (by omega) _
  have hsA := hbA.size
  have hne : w2.heap.size ≠ w.heap.size := by have := hbd2.lt; omega
  have hs0 := hRA.cell (j := 0) rfl
  have hs1' := hRA.cell (j := 1) rfl
  have hs2' := hRA.cell (j := 2) rfl
  have hbdD : Bd w.heap.size w.heap.size (byteCells (pre ++ st)) wA.drew := hbdA
  have hRD : Row wA.drew w2.heap.size 41 [.string ⟨st.toArray⟩, .bool true, .int .i64 (dCount ks)] := hRA
  have hsD : w.heap.size ≤ wA.drew.heap.size := hsA
  have HWA := Lib.hid hwA
  clear hwA
  go_wp2
  rw [← HWA.out]
  go_region_held3 (fun w' => w'.cell? ⟨w2.heap.size, 0, none⟩ = some (.string ⟨st.toArray⟩) ∧ w'.cell? ⟨w2.heap.size, 1, none⟩ = some (.bool true) ∧ w'.cell? ⟨w2.heap.size, 2, none⟩ = some (.int .i64 (dCount ks))) (simp [*, go_sem])
    (first | (go_at_call 14; refine (Tryd.Builder_String_any_k w.heap.size w.heap.size (pre ++ st) wA.drew hbdD hsD).mono ?_; rintro e w3 ⟨rfl, -, hb3, hok3⟩; have hR3 := Keeps.row (L := [.string ⟨st.toArray⟩, .bool true, .int .i64 (dCount ks)]) ⟨hb3, hok3⟩ hRD (by decide) hne; have q0 := hR3.cell (j := 0) rfl; have q1 := hR3.cell (j := 1) rfl; have q2 := hR3.cell (j := 2) rfl; clear hok3 hR3))
  go_wp2
  refine bodyPost_ret (v := .tuple #[.string ⟨(pre ++ st).toArray⟩, .string ⟨st.toArray⟩, .bool true, .int .i64 (dCount ks)]) (by simp [results, Tryd.results6, go_sem]) rfl ⟨by rw [HST.out], hbA.drew.trans (by assumption)⟩
end Go.Proofs.Qxb6627884aDoor

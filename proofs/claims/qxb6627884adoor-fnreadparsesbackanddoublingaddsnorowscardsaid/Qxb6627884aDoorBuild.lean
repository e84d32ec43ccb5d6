/-
  THE WALKS of strings.Builder's writers at this dump: copyCheck (15), WriteString (12), Write (17), WriteByte (20).
-/
import Derived.Test.Qxb6627884aDoorProg
import Derived.Test.Qxb6627884aDoorMem
import Derived.Test.Qxb6627884aDoorShelf
import Derived.Shelf.Strings.BuilderK
namespace Go.Proofs.Qxb6627884aDoor
open Go.RowKit

theorem Tryd.infoB : (Tryd.prog.info? 5).map (fun i => (i.zero, i.size, i.bytes)) = some (some (.int .u8 0), 1, 1) := by kernel_rfl

theorem copyCheck_used (b : Nat) (w : World) (h0 : w.cell? ⟨b, 0, none⟩ = some (.pointer (some ⟨b, 0, none⟩))) :
    Calls Tryd.prog 15 #[.pointer (some ⟨b, 0, none⟩)] w fun e w' => e = .returned (.tuple #[]) ∧ w' = w :=
  Any.Builder_copyCheck_used Tryd.lays240 Tryd.X72_240 b w h0

theorem copyCheck_fresh (b : Nat) (w : World) (h0 : w.cell? ⟨b, 0, none⟩ = some (.pointer none)) (hsh : w.shape? b = some (35, 2)) (hfz : w.frozen? ⟨b, 0, none⟩ = false) :
    Calls Tryd.prog 15 #[.pointer (some ⟨b, 0, none⟩)] w fun e w' => e = .returned (.tuple #[]) ∧ w' = w.setCell ⟨b, 0, none⟩ (.pointer (some ⟨b, 0, none⟩)) :=
  Any.Builder_copyCheck_fresh Tryd.lays240 Tryd.X72_240 b w h0 hsh hfz

/-- The builder at block b holds the bytes bs. -/
def Bd (B b : Nat) (bs : List Value) (w : World) : Prop := Lib.IsBuilderF 35 5 B b bs w

/-- What a writer leaves. -/
def Keeps (B b : Nat) (w w' : World) : Prop := Below B w w' ∧ Lib.OthersKept 5 (some b) w w'

theorem copyCheck_any (B b : Nat) (bs : List Value) (w : World) (h : Bd B b bs w) :
    Calls Tryd.prog 15 #[.pointer (some ⟨b, 0, none⟩)] w fun e w' => e = .returned (.tuple #[]) ∧ Lib.BuilderAtF 35 5 B b (.pointer (some ⟨b, 0, none⟩)) bs w' ∧ Keeps B b w w' := by
  rcases h with h | h
  · refine (copyCheck_fresh b w h.cell0 h.shape h.frozen0).mono ?_
    rintro e w' ⟨rfl, rfl⟩
    exact ⟨rfl, h.used _, (Below.refl B w).setCell (p := ⟨b, 0, none⟩) h.1 _, (Lib.OthersKept.refl _ _ w).setCell ⟨b, 0, none⟩ rfl _⟩
  · refine (copyCheck_used b w h.cell0).mono ?_
    rintro e w' ⟨rfl, rfl⟩
    exact ⟨rfl, h, Below.refl B _, Lib.OthersKept.refl _ _ _⟩

set_option maxHeartbeats 2000000 in
set_option maxRecDepth 100000 in
/-- (*strings.Builder).WriteByte. -/
theorem writeByte_any (B b : Nat) (bs : List Value) (c : Int) (w : World) (h : Bd B b bs w) (hlen : bs.length + 1 ≤ 140737488355328) (hBw : B ≤ w.heap.size) :
    Calls Tryd.prog 20 #[.pointer (some ⟨b, 0, none⟩), .int .u8 c] w fun e w' => e = .returned .nilIface ∧ Bd B b (bs ++ [.int .u8 c]) w' ∧ Keeps B b w w' := by
  obtain ⟨i0, hi, hz0, hz1, hz2⟩ := info_parts Tryd.infoB
  go_enter Tryd.func20, Tryd.ntmps20
  go_wp2_with (go_at_call 15; refine (copyCheck_any B b bs _ h).mono ?_)
  rintro e w1 ⟨rfl, h1, hb1, hk1⟩
  obtain ⟨hB, v, hbk, hown, hne⟩ := h1
  have c0 : w1.cell? ⟨b, 0, none⟩ = some (.pointer (some ⟨b, 0, none⟩)) := by rw [Lib.cell_of_heap hbk]; rfl
  have c1 : w1.cell? ⟨b, 1, none⟩ = some v := by rw [Lib.cell_of_heap hbk]; rfl
  go_wp2_with (at_builtin; refine wpList_append_ownF _ rfl _ _ 26 rfl B 5 i0 (.int .u8 0) 1 1 Tryd.underlying26 hi hz0 hz1 hz2 rfl (by decide) _ _ _ rfl (hown.alloc _) ⟨w1.heap.size, 0, none⟩ 1 1 [.int .u8 c] rfl rfl (cell_one_new _ _ _) ?c2 ?c3 ?c4 ?c5 ?_)
  case c2 => intro u hu; simp at hu; subst hu; rfl
  case c3 => unfold maxLen; omega
  case c4 => omega
  case c5 => have := hb1.size; simp; omega
  intro v' w2 hown' hgrow _
  have hlt : b < w1.heap.size := lt_of_block hbk
  have hb2 : w2.heap[b]? = some (.cells #[.pointer (some ⟨b, 0, none⟩), v] 35 (0, 0)) := by
    rw [hgrow.block b (by simp; omega) (fun e => hne e.symm), Lib.alloc_old w1 _ b hlt]
    exact hbk
  have d0 : w2.cell? ⟨b, 0, none⟩ = some (.pointer (some ⟨b, 0, none⟩)) := by rw [Lib.cell_of_heap hb2]; rfl
  have d1 : w2.cell? ⟨b, 1, none⟩ = some v := by rw [Lib.cell_of_heap hb2]; rfl
  have f1 : w2.frozen? ⟨b, 1, none⟩ = false := Lib.frozen_of_heap hb2 1
  obtain ⟨g, cap, rfl⟩ : ∃ g cap, v' = .slice (some ⟨g, 0, none⟩) (bs.length + 1) cap := by
    rcases hown'.2 with ⟨_, h0⟩ | ⟨g, cap, cur, fz, hv, _⟩
    · omega
    · exact ⟨g, cap, hv⟩
  go_wp2
  go_ret
  refine ⟨rfl, .inr ?_, ?_, ((hk1.alloc _).grown hgrow (Lib.ownsRowF_kind (hown.alloc _))).setCell ⟨b, 1, none⟩ rfl _⟩
  · exact Lib.BuilderAtF.put (T := 35) (e := 5) hB hb2 (bs' := bs ++ [.int .u8 c]) (by simpa using hown') (by decide)
  · exact ((hb1.alloc (by have := hb1.size; omega) _).grown hgrow (by have := hb1.size; simp; omega) (fun k hk => (hown.lt k hk).1)).setCell (p := ⟨b, 1, none⟩) hB _

set_option maxHeartbeats 2000000 in
set_option maxRecDepth 100000 in
/-- (*strings.Builder).Write(p), p not nil, no row of bytes: an array's cells. -/
theorem write_any (B b : Nat) (bs : List Value) (g m c T : Nat) (L news : List Value) (w : World) (h : Bd B b bs w) (hrow : Row w g T L) (hT : T ≠ 5) (hgb : g ≠ b) (hl : news.length = m) (hnews : L.take m = news) (h1 : ∀ u ∈ news, u.oneCell' = true)
    (hlen : bs.length + m ≤ 140737488355328) (hBw : B ≤ w.heap.size) :
    Calls Tryd.prog 17 #[.pointer (some ⟨b, 0, none⟩), .slice (some ⟨g, 0, none⟩) m c] w fun e w' => e = .returned (.tuple #[.int .i64 m, .nilIface]) ∧ Bd B b (bs ++ news) w' ∧ Keeps B b w w' := by
  obtain ⟨i0, hi, hz0, hz1, hz2⟩ := info_parts Tryd.infoB
  go_enter Tryd.func17, Tryd.ntmps17
  go_wp2_with (go_at_call 15; refine (copyCheck_any B b bs _ h).mono ?_)
  rintro e w1 ⟨rfl, h1', hb1, hk1⟩
  obtain ⟨hB, v, hbk, hown, hne⟩ := h1'
  have c0 : w1.cell? ⟨b, 0, none⟩ = some (.pointer (some ⟨b, 0, none⟩)) := by rw [Lib.cell_of_heap hbk]; rfl
  have c1 : w1.cell? ⟨b, 1, none⟩ = some v := by rw [Lib.cell_of_heap hbk]; rfl
  have hrow1 : Row w1 g T L := hk1 g _ hrow (by simpa using hgb) (by intro c fz e; simp at e; exact hT e.2.1)
  have hnews1 : ∀ j u, news[j]? = some u → w1.cell? ((⟨g, 0, none⟩ : Addr).add j) = some u := by
    intro j u hj
    rw [Addr.add_lit]
    refine hrow1.cell ?_
    rw [← hnews, List.getElem?_take] at hj
    split at hj
    · simpa using hj
    · cases hj
  clear hrow hrow1
  go_wp2_with (at_builtin; refine wpList_append_ownF _ rfl _ _ 26 rfl B 5 i0 (.int .u8 0) 1 1 Tryd.underlying26 hi hz0 hz1 hz2 rfl (by decide) _ _ _ rfl hown ⟨g, 0, none⟩ m c news rfl ?c0 hnews1 h1 ?c3 ?c4 ?c5 ?_)
  case c0 => omega
  case c3 => unfold maxLen; omega
  case c4 => omega
  case c5 => have := hb1.size; omega
  intro v' w2 hown' hgrow _
  have hlt : b < w1.heap.size := lt_of_block hbk
  have hb2 : w2.heap[b]? = some (.cells #[.pointer (some ⟨b, 0, none⟩), v] 35 (0, 0)) := by
    rw [hgrow.block b hlt (fun e => hne e.symm)]
    exact hbk
  have d0 : w2.cell? ⟨b, 0, none⟩ = some (.pointer (some ⟨b, 0, none⟩)) := by rw [Lib.cell_of_heap hb2]; rfl
  have d1 : w2.cell? ⟨b, 1, none⟩ = some v := by rw [Lib.cell_of_heap hb2]; rfl
  have f1 : w2.frozen? ⟨b, 1, none⟩ = false := Lib.frozen_of_heap hb2 1
  obtain ⟨ao, n', cap, rfl⟩ : ∃ ao n' cap, v' = .slice ao n' cap := by
    rcases hown'.2 with ⟨hv, _⟩ | ⟨g, cap, cur, fz, hv, _⟩
    · exact ⟨_, _, _, hv⟩
    · exact ⟨_, _, _, hv⟩
  clear hnews1
  go_wp2
  go_ret2
  refine ⟨rfl, .inr ?_, ?_, (hk1.grown hgrow (Lib.ownsRowF_kind hown)).setCell ⟨b, 1, none⟩ rfl _⟩
  · exact Lib.BuilderAtF.put (T := 35) (e := 5) hB hb2 (bs' := bs ++ news) (by simpa [hl] using hown') (by decide)
  · exact (hb1.grown hgrow (by have := hb1.size; omega) (fun k hk => (hown.lt k hk).1)).setCell (p := ⟨b, 1, none⟩) hB _

set_option maxHeartbeats 2000000 in
set_option maxRecDepth 100000 in
/-- (*strings.Builder).WriteString. -/
theorem writeString_any (B b : Nat) (bs : List Value) (s : ByteArray) (w : World) (h : Bd B b bs w) (hlen : bs.length + s.size ≤ 140737488355328) (hBw : B ≤ w.heap.size) :
    Calls Tryd.prog 12 #[.pointer (some ⟨b, 0, none⟩), .string s] w fun e w' => e = .returned (.tuple #[.int .i64 s.size, .nilIface]) ∧ Bd B b (bs ++ Lib.strCells s) w' ∧ Keeps B b w w' := by
  obtain ⟨i0, hi, hz0, hz1, hz2⟩ := info_parts Tryd.infoB
  go_enter Tryd.func12, Tryd.ntmps12
  go_wp2_with (go_at_call 15; refine (copyCheck_any B b bs _ h).mono ?_)
  rintro e w1 ⟨rfl, h1, hb1, hk1⟩
  obtain ⟨hB, v, hbk, hown, hne⟩ := h1
  have c0 : w1.cell? ⟨b, 0, none⟩ = some (.pointer (some ⟨b, 0, none⟩)) := by rw [Lib.cell_of_heap hbk]; rfl
  have c1 : w1.cell? ⟨b, 1, none⟩ = some v := by rw [Lib.cell_of_heap hbk]; rfl
  go_wp2_with (at_builtin; refine Lib.wpList_append_own_stringF _ rfl _ _ 26 9 rfl B 5 i0 Tryd.underlying26 Tryd.underlying9 hi hz0 hz1 hz2 _ _ _ rfl hown s rfl ?c3 ?c4 ?c5 ?_)
  case c3 => unfold maxLen; omega
  case c4 => omega
  case c5 => have := hb1.size; omega
  intro v' w2 hown' hgrow _
  have hlt : b < w1.heap.size := lt_of_block hbk
  have hb2 : w2.heap[b]? = some (.cells #[.pointer (some ⟨b, 0, none⟩), v] 35 (0, 0)) := by
    rw [hgrow.block b hlt (fun e => hne e.symm)]
    exact hbk
  have d0 : w2.cell? ⟨b, 0, none⟩ = some (.pointer (some ⟨b, 0, none⟩)) := by rw [Lib.cell_of_heap hb2]; rfl
  have d1 : w2.cell? ⟨b, 1, none⟩ = some v := by rw [Lib.cell_of_heap hb2]; rfl
  have f1 : w2.frozen? ⟨b, 1, none⟩ = false := Lib.frozen_of_heap hb2 1
  obtain ⟨ao, n', cap, rfl⟩ : ∃ ao n' cap, v' = .slice ao n' cap := by
    rcases hown'.2 with ⟨hv, _⟩ | ⟨g, cap, cur, fz, hv, _⟩
    · exact ⟨_, _, _, hv⟩
    · exact ⟨_, _, _, hv⟩
  go_wp2
  go_ret2
  refine ⟨rfl, .inr ?_, ?_, (hk1.grown hgrow (Lib.ownsRowF_kind hown)).setCell ⟨b, 1, none⟩ rfl _⟩
  · exact Lib.BuilderAtF.put (T := 35) (e := 5) hB hb2 (bs' := bs ++ Lib.strCells s) (by simpa [Lib.strCells_length] using hown') (by decide)
  · exact (hb1.grown hgrow (by have := hb1.size; omega) (fun k hk => (hown.lt k hk).1)).setCell (p := ⟨b, 1, none⟩) hB _

end Go.Proofs.Qxb6627884aDoor

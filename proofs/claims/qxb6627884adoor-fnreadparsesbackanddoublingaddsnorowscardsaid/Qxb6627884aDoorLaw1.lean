/-
  THE WALK of the law FnReadWritesSelectOfKeys (3).
-/
import Derived.Test.Qxb6627884aDoorZz
import Derived.Test.Qxb6627884aDoorDec
import Derived.Test.Qxb6627884aDoorDistW
import Derived.Laws.CopyOwn
import Derived.Laws.IdiomStrings
namespace Go.Proofs.Qxb6627884aDoor
open Go.RowKit
open Go.Lib (decDigits itoa nDigits byteCells)

set_option maxHeartbeats 1000000 in
theorem distinct_nil (w : World) :
    Calls Tryd.prog 8 #[.slice none 0 0] w fun e w' => e = .returned (.int .i64 (dCount [])) ∧ Below w.heap.size w w' := by
  obtain ⟨i0, hi, hz0, hz1, hz2⟩ := info_parts Tryd.info3
  go_enter Tryd.func8, Tryd.ntmps8
  go_wp2_with (refine wpList_make_row _ rfl _ _ 22 rfl 3 i0 (.int .i64 0) Tryd.underlying22 hi hz0 hz1 rfl .i64 .i64 _ _ 0 0 rfl rfl rfl rfl (Nat.le_refl _) (by rw [hz2]; omega) (by unfold maxLen; omega) ?_)
  intro w1 hr1 hb1 hs1
  clear hs1
  go_wp2
  refine wp_loop_rounds 1 ?_
  rw [rounds_succ]
  go_wp2
  refine wp_loop_rounds 1 ?_
  rw [rounds_succ]
  go_wp2
  refine wp_loop_rounds 1 ?_
  rw [rounds_succ]
  go_wp2
  go_ret
  exact ⟨rfl, hb1⟩

theorem distinct_keys (B : Nat) (kv : Value) (ks : List Int) (w : World) (hl : ks.length ≤ 4096) (hk : KeysAt B w kv ks) (hB : B ≤ w.heap.size) :
    Calls Tryd.prog 8 #[kv] w fun e w' => e = .returned (.int .i64 (dCount ks)) ∧ Below w.heap.size w w' := by
  rcases hk with ⟨rfl, rfl⟩ | ⟨kb, off, c, rfl, hc, hkb, hcells⟩
  · exact distinct_nil w
  · exact distinct_any kb off c ks w hl hcells (by omega)

/-- zzBytes: within the bound. -/
theorem bytes_yes (s : ByteArray) (ao : Option Addr) (n c : Nat) (w : World) (h : s.size + n ≤ 1048576) :
    Calls Tryd.prog 5 #[.string s, .slice ao n c] w fun e w' => e = .returned (.bool true) ∧ w' = w := by
  go_enter Tryd.func5, Tryd.ntmps5
  go_wp2
  go_ret
  exact ⟨rfl, rfl⟩

/-- zzBytes: beyond it. -/
theorem bytes_no (s : ByteArray) (ao : Option Addr) (n c : Nat) (w : World) (hs : s.size ≤ maxLen) (hn : n ≤ maxLen) (h : 1048576 < s.size + n) :
    Calls Tryd.prog 5 #[.string s, .slice ao n c] w fun e w' => e = .returned (.bool false) ∧ w' = w := by
  unfold maxLen at hs hn
  by_cases h1 : 1048576 < s.size
  · go_enter Tryd.func5, Tryd.ntmps5
    go_wp2
    go_ret
    exact ⟨rfl, rfl⟩
  · by_cases h2 : 1048576 < n
    · go_enter Tryd.func5, Tryd.ntmps5
      go_wp2
      go_ret
      exact ⟨rfl, rfl⟩
    · go_enter Tryd.func5, Tryd.ntmps5
      go_wp2
      go_ret
      exact ⟨rfl, rfl⟩

theorem Tryd.size3 : (Tryd.prog.info? 3).map (·.size) = some 1 := by kernel_rfl

/-- The law where one of her bounds is passed: true. -/
theorem law1_out (s : ByteArray) (ao : Option Addr) (n c : Nat) (w : World) (hs : s.size ≤ maxLen) (hn : n ≤ maxLen) (h : 65536 < s.size ∨ 4096 < n) :
    Calls Tryd.prog 3 #[.string s, .slice ao n c] w fun e w' => e = .returned (.bool true) ∧ w' = w := by
  by_cases hb : s.size + n ≤ 1048576
  · by_cases h1 : 65536 < s.size
    · go_enter Tryd.func3, Tryd.ntmps3
      go_wp2_with (go_at_call 5; refine (bytes_yes s ao n c w hb).mono ?_; rintro e w' ⟨rfl, rfl⟩)
      go_ret
      exact ⟨rfl, rfl⟩
    · have h2 : 4096 < n := by omega
      go_enter Tryd.func3, Tryd.ntmps3
      go_wp2_with (go_at_call 5; refine (bytes_yes s ao n c w hb).mono ?_; rintro e w' ⟨rfl, rfl⟩)
      go_ret
      exact ⟨rfl, rfl⟩
  · go_enter Tryd.func3, Tryd.ntmps3
    go_wp2_with (go_at_call 5; refine (bytes_no s ao n c w hs hn (by omega)).mono ?_; rintro e w' ⟨rfl, rfl⟩)
    go_ret
    exact ⟨rfl, rfl⟩

theorem cat_toList (a b : List UInt8) : ((⟨a.toArray⟩ : ByteArray) ++ ⟨b.toArray⟩).toList = a ++ b := by
  rw [Go.ByteArray.toList_eq]
  simp

/-- How the argument reads. -/
def ArgAt (w : World) (kv : Value) (ks : List Int) : Prop :=
  (kv = .slice none 0 0 ∧ ks = []) ∨ ∃ ad c, kv = .slice (some ad) ks.length c ∧ ∀ j, j < ks.length → w.cell? (ad.add j) = some (.int .i64 (ks.getD j 0))

theorem ints_cells (ks : List Int) {j : Nat} {u : Value} (h : (ints ks)[j]? = some u) : j < ks.length ∧ u = .int .i64 (ks.getD j 0) := by
  have hj : j < ks.length := by
    have := (List.getElem?_eq_some_iff.1 h).1
    rwa [ints_length] at this
  rw [ints_at ks j hj] at h
  cases h
  exact ⟨hj, rfl⟩
theorem ints_one (ks : List Int) : ∀ u ∈ ints ks, u.oneCell' = true := by
  intro u hu
  simp only [ints, List.mem_map] at hu
  obtain ⟨x, _, rfl⟩ := hu
  rfl

set_option maxHeartbeats 3000000 in
set_option maxRecDepth 100000 in
theorem law1_main (pre : List UInt8) (kv : Value) (ks : List Int) (w : World) (hp : pre.length ≤ 65536) (hl : ks.length ≤ 4096) (hI : ∀ x ∈ ks, I64 x) (hk : ArgAt w kv ks)
    (htab : Lib.TabIs Tryd.prog w powName .u64 Lib.pow10Tab) :
    Calls Tryd.prog 3 #[.string ⟨pre.toArray⟩, kv] w fun e w' => e = .returned (.bool true) ∧ Below w.heap.size w w' := by
  obtain ⟨i3, hi3, hz30, hz31, hz32⟩ := info_parts Tryd.info3
  obtain ⟨i5, hi5, hz50, hz51, hz52⟩ := info_parts Tryd.info5
  have hT := Lib.tabBelow_of_tabIs htab
  obtain ⟨ao, c, rfl⟩ : ∃ ao c, kv = .slice ao ks.length c := by
    rcases hk with ⟨rfl, rfl⟩ | ⟨ad, c, rfl, _⟩
    · exact ⟨none, 0, rfl⟩
    · exact ⟨some ad, c, rfl⟩
  go_enter Tryd.func3, Tryd.ntmps3
  go_wp2_with fail
  refine (bytes_yes ⟨pre.toArray⟩ ao ks.length c w (by show pre.length + _ ≤ _; omega)).mono ?_
  rintro e w' ⟨rfl, rfl⟩
  go_upto_if 23 with fail
  go_cut [1, 5] (fun kv zc wc => KeysAt wc.heap.size wc kv ks ∧ Below w'.heap.size w' wc)
  case first =>
    rcases hk with ⟨hv, rfl⟩ | ⟨ad, c2, hv, hcells⟩
    · cases hv
      go_wp2_with fail
      go_meet
      exact ⟨.inl ⟨rfl, rfl⟩, Below.refl _ _⟩
    · cases hv
      go_wp2_with (first | refine wpList_make_row _ rfl _ _ 22 rfl 3 i3 (.int .i64 0) Tryd.underlying22 hi3 hz30 hz31 rfl .i64 .i64 _ _ ks.length ks.length rfl rfl rfl rfl (Nat.le_refl _) (by rw [hz32]; omega) (by unfold maxLen; omega) ?_)
      intro w1 hr1 hb1 hs1
      have hsrc : ∀ j u, (ints ks)[j]? = some u → w1.cell? (ad.add j) = some u := by
        intro j u hj
        obtain ⟨hj1, rfl⟩ := ints_cells ks hj
        have hc := hcells j hj1
        have hlt := World.block_lt_of_cell? w' _ hc
        exact (hb1.cell hlt).trans hc
      have hil : (ints ks).length = Nat.min ks.length ks.length := by rw [ints_length]; exact (Nat.min_self _).symm
      have hr1' : w1.heap[w'.heap.size]? = some (.cells (List.replicate ks.length (Value.int .i64 0)).toArray 3 (0, 0)) := hr1
      have hfit : 0 + (ints ks).length ≤ (List.replicate ks.length (Value.int .i64 0)).length := by rw [ints_length]; simp
      clear hs1 hcells
      go_wp2_with (refine wpList_copy_splice rfl _ _ 22 22 rfl 3 Tryd.underlying22 Tryd.size3 _ _ _ _ _ _ rfl rfl w'.heap.size 0 (List.replicate ks.length (.int .i64 0)) 3 hr1' (ints ks) hil (fun _ => ⟨rfl, _, rfl, hsrc⟩) hfit (ints_one ks) w'.heap.size w' hb1 (Nat.le_refl _) ?_)
      intro w2 hr2 hb2
      have hrow2 : Row w2 w'.heap.size 3 (ints ks) := by
        have h1 := hr2.out
        have e : splice (List.replicate ks.length (Value.int .i64 0)) 0 (ints ks) = ints ks := by
          unfold splice
          rw [ints_length]
          simp
        rw [e] at h1
        exact h1
      clear hr2
      go_wp2
      go_meet
      refine ⟨.inr ⟨w'.heap.size, 0, ks.length, rfl, Nat.le_refl _, hrow2.lt, fun j hj => ?_⟩, hb2⟩
      rw [Nat.zero_add]
      exact hrow2.cell (ints_at ks j hj)
  case rest =>
    obtain ⟨hka, hbc⟩ := hcut
    clear hk
    have hsc := hbc.size
    go_wp2_with fail
    refine (zzread_any _ pre ks wc (by omega) (by omega) hI hka (Lib.tabBelow_of_tabIs (hT wc hbc))).mono ?_
    rintro e w2 ⟨rfl, hb2⟩
    have hkb : KeysAt w2.heap.size w2 u1 ks := hka.on hb2 hb2.size
    have hbc2 : Below w'.heap.size w' w2 := hbc.trans (hb2.mono hsc)
    clear hka hbc hb2
    obtain ⟨ak, ck, rfl⟩ : ∃ ak ck, u1 = .slice ak ks.length ck := by
      rcases hkb with ⟨h1, rfl⟩ | ⟨kb, off, c2, h1, _⟩
      · exact ⟨none, 0, h1⟩
      · exact ⟨_, _, h1⟩
    obtain ⟨st, hst⟩ : ∃ st, st = selText ks := ⟨_, rfl⟩
    rw [← hst]
    have HST := Lib.hid hst
    clear hst
    go_wp2_with (first | refine wpList_make_own _ rfl _ _ 26 rfl w2.heap.size 5 i5 (.int .u8 0) 1 Tryd.underlying26 hi5 hz50 hz51 .i64 .i64 _ (44 + 22 * ks.length) rfl rfl (by omega) (by rw [hz52]; omega) (by unfold maxLen; omega) (Nat.le_refl _) ?_)
    intro w3 hown3 hg3
    have hhd : (⟨selHead.toArray⟩ : ByteArray).size = 43 := rfl
    have hs3 := hg3.size
    have hb3 : Below w2.heap.size w2 w3 := ⟨hg3.os, hg3.tape, hg3.output, hg3.size, fun k hk => hg3.block k hk (by simp)⟩
    clear hg3
    go_wp2_with (at_builtin; refine Lib.wpList_append_own_string _ rfl _ _ 26 9 rfl w2.heap.size 5 i5 Tryd.underlying26 Tryd.underlying9 hi5 hz50 hz51 hz52 _ _ _ rfl hown3 ⟨selHead.toArray⟩ rfl (by rw [hhd]; unfold maxLen; omega) (by rw [hhd]; omega) hs3 ?_)
    intro v4 w4 hown4 hg4 _
    have hb4 : Below w2.heap.size w2 w4 := hb3.grown hg4 hs3 (fun k hk => (hown3.lt k hk).1)
    rw [strCells_bytes] at hown4
    clear hg4 hown3 hb3 hs3 hhd
    go_wp2
    go_loopw [10, 11] (fun v i wr => ∃ k : Nat, k ≤ ks.length ∧ i = .int .i64 k ∧ wr.ownsRow w2.heap.size 5 1 v (43 + (joinD (ks.take k)).length) (byteCells (selHead ++ joinD (ks.take k))) ∧ Below w2.heap.size w2 wr) (fun _ i _ => ks.length - (intOf i).toNat)
    case atStart => exact ⟨0, Nat.zero_le _, rfl, by simpa [joinD] using hown4, hb4⟩
    case round =>
      clear hown4 hb4
      obtain ⟨k, hk, rfl, hown, hbw⟩ := hrel
      have hszr := hbw.size
      have hjl := joinD_le (ks.take k) (fun x hx => hI x (List.mem_of_mem_take hx))
      have htl : (ks.take k).length = k := by simp; omega
      by_cases hlt : k < ks.length
      · obtain ⟨x, hx⟩ : ∃ x, x = ks.getD k 0 := ⟨_, rfl⟩
        have hxI : I64 x := by rw [hx, getD_at _ _ hlt]; exact hI _ (List.getElem_mem hlt)
        have hj := joinD_snoc (ks.take k) x
        have hxt : ks.take k ++ [x] = ks.take (k + 1) := by rw [hx, getD_at _ _ hlt, List.take_succ_eq_append_getElem hlt]
        rw [hxt] at hj
        have HJ := Lib.hid hj
        have HX := Lib.hid hx
        clear hj hx hxt
        go_upto_if 54 with fail
        go_cut [10] (fun v wc2 => ∃ n, n ≤ 43 + 22 * 4096 + 2 ∧ n + (itoa x).length = 43 + (joinD (ks.take (k + 1))).length ∧ wc2.ownsRow w2.heap.size 5 1 v n (byteCells (selHead ++ joinD (ks.take k) ++ (if (ks.take k).isEmpty then [] else [44, 32]))) ∧ Below w2.heap.size w2 wc2)
        case first =>
          by_cases hk0 : k = 0
          · subst hk0
            go_wp2_with fail
            go_meet
            exact ⟨43, by omega, by rw [HJ.out]; simp [joinD], by simpa [joinD] using hown, hbw⟩
          · have hke : (ks.take k).isEmpty = false := by cases hq : ks.take k with | nil => rw [hq] at htl; simp at htl; omega | cons a l => rfl
            have hki : (0 : Int) < (k : Int) := by omega
            go_wp2_with (at_builtin; refine wpList_append_own _ rfl _ _ 26 rfl w2.heap.size 5 i5 (.int .u8 0) 1 1 Tryd.underlying26 hi5 hz50 hz51 hz52 rfl (by decide) _ _ _ rfl (hown.alloc _) ⟨wr.heap.size, 0, none⟩ 2 2 [Value.int .u8 44, Value.int .u8 32] rfl rfl ?d1 ?d2 ?d3 ?d4 ?d5 ?_)
            case d1 =>
              intro j u hj
              match j, hj with
              | 0, hj => simp at hj; subst hj; simp [Addr.add]
              | 1, hj => simp at hj; subst hj; simp [Addr.add]
            case d2 => intro u hu; simp at hu; rcases hu with rfl | rfl <;> rfl
            case d3 => unfold maxLen; omega
            case d4 => omega
            case d5 => simp; omega
            intro v1 w5 hown5 hg5 _
            have hb5 : Below w2.heap.size w2 w5 := (hbw.alloc (by omega) _).grown hg5 (by simp; omega) (fun k hk => (hown.lt k hk).1)
            clear hg5
            go_wp2
            go_meet
            refine ⟨43 + (joinD (ks.take k)).length + 2, by omega, by rw [HJ.out, hke]; simp; omega, ?_, hb5⟩
            · rw [if_neg (by rw [hke]; decide)]
              have e : byteCells (selHead ++ joinD (ks.take k) ++ [44, 32]) = byteCells (selHead ++ joinD (ks.take k)) ++ [Value.int .u8 44, Value.int .u8 32] := by rw [byteCells_append]; rfl
              rw [e]
              exact hown5
        case rest =>
          obtain ⟨n5, hn5, hnl, hown5, hb5⟩ := hcut
          have HN := Lib.hid hnl
          clear hnl hown hbw
          rcases hkb with ⟨h1, h2⟩ | ⟨kb, off, c2, h1, hc2, hkb2, hcells⟩
          · exfalso; rw [h2] at hlt; simp at hlt
          · cases h1
            have hcx : wc.cell? ⟨kb, off + k, none⟩ = some (.int .i64 x) := by rw [HX.out]; exact (hb5.cell (by exact hkb2)).trans (hcells k hlt)
            have hs5 := hb5.size
            go_wp2_with fail
            refine (appendDec_any w2.heap.size n5 x hxI _ _ wc hown5 hs5 (by omega)).mono ?_
            rintro e w6 ⟨v6, rfl, hown6, hb6⟩
            have HO : Hid (w6.ownsRow w2.heap.size 5 1 v6 (43 + (joinD (ks.take (k + 1))).length) (byteCells (selHead ++ joinD (ks.take (k + 1))))) := by
              have h1 := hown6
              rw [HN.out, ← byteCells_append, List.append_assoc (selHead ++ joinD (ks.take k)), List.append_assoc selHead, ← HJ.out] at h1
              exact h1
            have hb7 := hb5.trans hb6
            clear hown6 hb6 hown5 hb5 hcx hcells
            go_wp2
            go_roundw
            case rel => exact ⟨k + 1, by omega, by go_num, HO.out, hb7⟩
            case measure => simp [intOf]; omega
      · have e1 : ks.take k = ks := List.take_of_length_le (by omega)
        rw [e1] at hown hjl
        clear e1
        go_wp2_with (at_builtin; refine wpList_append_own _ rfl _ _ 26 rfl w2.heap.size 5 i5 (.int .u8 0) 1 1 Tryd.underlying26 hi5 hz50 hz51 hz52 rfl (by decide) _ _ _ rfl (hown.alloc _) ⟨wr.heap.size, 0, none⟩ 1 1 [Value.int .u8 41] rfl rfl (cell_one_new _ _ _) ?f2 ?f3 ?f4 ?f5 ?_)
        case f2 => intro u hu; simp at hu; subst hu; rfl
        case f3 => unfold maxLen; omega
        case f4 => omega
        case f5 => simp; omega
        intro v1 w5 hown5 hg5 _
        have hb5 : Below w2.heap.size w2 w5 := (hbw.alloc (by omega) _).grown hg5 (by simp; omega) (fun k hk => (hown.lt k hk).1)
        have hown6 : w5.ownsRow w2.heap.size 5 1 v1 st.length (byteCells st) := by
          have h1 := hown5
          rw [show byteCells (selHead ++ joinD ks) ++ [Value.int .u8 41] = byteCells st by rw [HST.out]; unfold selText; rw [byteCells_append (selHead ++ joinD ks)]; rfl] at h1
          rw [show 43 + (joinD ks).length + 1 = st.length by rw [HST.out]; unfold selText; simp only [List.length_append]; rfl] at h1
          exact h1
        have hstl : 0 < st.length := by rw [HST.out]; simp [selText]; omega
        have hstb : st.length ≤ 44 + 22 * 4096 := by rw [HST.out]; unfold selText; simp only [List.length_append]; have : selHead.length = 43 := rfl; simp; omega
        have hcat := cat_toList pre st
        clear hg5 hown hown5 hbw
        rcases hown6.2 with ⟨-, h0⟩ | ⟨g, cap, cur, rfl, -, -, -, -, -, -⟩
        · omega
        · have hcv := run_convert_bytes_back (P := Tryd.prog) w5 26 9 5 ⟨g, 0, none⟩ cap st Tryd.underlying26 Tryd.underlying5 Tryd.underlying9 (fun j hj => hown6.cells (g := g) rfl j _ (by simp [byteCells, hj]))
          have hb6 := hbc2.trans (hb5.mono hbc2.size)
          have hk6 : KeysAt w2.heap.size w5 (.slice ak ks.length ck) ks := hkb.on hb5 (Nat.le_refl _)
          have hs5 := hb5.size
          have hs6 := hb6.size
          clear hown6 hkb hb5
          go_wp2_with fail
          refine (distinct_keys w2.heap.size _ ks w5 hl hk6 hs5).mono ?_
          rintro e w6 ⟨rfl, hb7⟩
          have hb8 := hb6.trans (hb7.mono hs6)
          go_wp2
          go_ret
          exact ⟨rfl, hb8⟩
end Go.Proofs.Qxb6627884aDoor

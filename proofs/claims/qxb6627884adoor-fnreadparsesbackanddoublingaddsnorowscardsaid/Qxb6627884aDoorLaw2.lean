/-
  THE WALK of the law FnReadParsesBackAndDoublingAddsNoRows (4).
-/
import Derived.Test.Qxb6627884aDoorLaw1
import Derived.Test.Qxb6627884aDoorSame
namespace Go.Proofs.Qxb6627884aDoor
open Go.RowKit
open Go.Lib (decDigits itoa nDigits byteCells)

/-- zzBytes: within the bound. -/
theorem bytes2_yes (s : ByteArray) (ao : Option Addr) (n c : Nat) (w : World) (h : s.size + n ≤ 1048576) :
    Calls Tryd.prog 9 #[.string s, .slice ao n c] w fun e w' => e = .returned (.bool true) ∧ w' = w := by
  go_enter Tryd.func9, Tryd.ntmps9
  go_wp2
  go_ret
  exact ⟨rfl, rfl⟩

/-- zzBytes: beyond it. -/
theorem bytes2_no (s : ByteArray) (ao : Option Addr) (n c : Nat) (w : World) (hs : s.size ≤ maxLen) (hn : n ≤ maxLen) (h : 1048576 < s.size + n) :
    Calls Tryd.prog 9 #[.string s, .slice ao n c] w fun e w' => e = .returned (.bool false) ∧ w' = w := by
  unfold maxLen at hs hn
  by_cases h1 : 1048576 < s.size
  · go_enter Tryd.func9, Tryd.ntmps9
    go_wp2
    go_ret
    exact ⟨rfl, rfl⟩
  · by_cases h2 : 1048576 < n
    · go_enter Tryd.func9, Tryd.ntmps9
      go_wp2
      go_ret
      exact ⟨rfl, rfl⟩
    · go_enter Tryd.func9, Tryd.ntmps9
      go_wp2
      go_ret
      exact ⟨rfl, rfl⟩

/-- The law where one of her bounds is passed: true. -/
theorem law2_out (s : ByteArray) (ao : Option Addr) (n c : Nat) (w : World) (hs : s.size ≤ maxLen) (hn : n ≤ maxLen) (h : 65536 < s.size ∨ 4096 < n) :
    Calls Tryd.prog 4 #[.string s, .slice ao n c] w fun e w' => e = .returned (.bool true) ∧ w' = w := by
  by_cases hb : s.size + n ≤ 1048576
  · by_cases h1 : 65536 < s.size
    · go_enter Tryd.func4, Tryd.ntmps4
      go_wp2_with (go_at_call 9; refine (bytes2_yes s ao n c w hb).mono ?_; rintro e w' ⟨rfl, rfl⟩)
      go_ret
      exact ⟨rfl, rfl⟩
    · have h2 : 4096 < n := by omega
      go_enter Tryd.func4, Tryd.ntmps4
      go_wp2_with (go_at_call 9; refine (bytes2_yes s ao n c w hb).mono ?_; rintro e w' ⟨rfl, rfl⟩)
      go_ret
      exact ⟨rfl, rfl⟩
  · go_enter Tryd.func4, Tryd.ntmps4
    go_wp2_with (go_at_call 9; refine (bytes2_no s ao n c w hs hn (by omega)).mono ?_; rintro e w' ⟨rfl, rfl⟩)
    go_ret
    exact ⟨rfl, rfl⟩

set_option maxHeartbeats 3000000 in
set_option maxRecDepth 100000 in
theorem law2_main (pre : List UInt8) (kv : Value) (ks : List Int) (w : World) (hp : pre.length ≤ 65536) (hl : ks.length ≤ 4096) (hI : ∀ x ∈ ks, I64 x) (hk : ArgAt w kv ks)
    (htab : Lib.TabIs Tryd.prog w powName .u64 Lib.pow10Tab) :
    Calls Tryd.prog 4 #[.string ⟨pre.toArray⟩, kv] w fun e w' => e = .returned (.bool true) ∧ Below w.heap.size w w' := by
  obtain ⟨i3, hi3, hz30, hz31, hz32⟩ := info_parts Tryd.info3
  have hT := Lib.tabBelow_of_tabIs htab
  obtain ⟨ao, c, rfl⟩ : ∃ ao c, kv = .slice ao ks.length c := by
    rcases hk with ⟨rfl, rfl⟩ | ⟨ad, c, rfl, _⟩
    · exact ⟨none, 0, rfl⟩
    · exact ⟨some ad, c, rfl⟩
  go_enter Tryd.func4, Tryd.ntmps4
  go_wp2_with fail
  refine (bytes2_yes ⟨pre.toArray⟩ ao ks.length c w (by show pre.length + _ ≤ _; omega)).mono ?_
  rintro e w' ⟨rfl, rfl⟩
  go_upto_if 32 with fail
  go_cut [1, 5] (fun kv zc wc => KeysAt wc.heap.size wc kv ks ∧ Below w'.heap.size w' wc)
  case first =>
    rcases hk with ⟨hv, rfl⟩ | ⟨ad, c2, hv, hcells⟩
    · cases hv
      go_wp2_with fail
      go_meet
      exact ⟨.inl ⟨rfl, rfl⟩, Below.refl _ _⟩
    · cases hv
      go_wp2_with (first | refine wpList_make_row _ rfl _ _ 22 rfl 3 i3 (.int .i64 0) Tryd.underlying22 hi3 hz30 hz31 rfl .i64 .i64 _ _ ks.length ks.length rfl rfl rfl rfl (Nat.le_refl _) (by rw [hz32]; omega) (by unfold maxLen; omega) ?_)
      intro w1 hr1 hb1 hs1
      have hsrc : ∀ j u, (ints ks)[j]? = some u → w1.cell? (ad.add j) = some u := by
        intro j u hj
        obtain ⟨hj1, rfl⟩ := ints_cells ks hj
        have hc := hcells j hj1
        have hlt := World.block_lt_of_cell? w' _ hc
        exact (hb1.cell hlt).trans hc
      have hil : (ints ks).length = Nat.min ks.length ks.length := by rw [ints_length]; exact (Nat.min_self _).symm
      have hr1' : w1.heap[w'.heap.size]? = some (.cells (List.replicate ks.length (Value.int .i64 0)).toArray 3 (0, 0)) := hr1
      have hfit : 0 + (ints ks).length ≤ (List.replicate ks.length (Value.int .i64 0)).length := by rw [ints_length]; simp
      clear hs1 hcells
      go_wp2_with (refine wpList_copy_splice rfl _ _ 22 22 rfl 3 Tryd.underlying22 Tryd.size3 _ _ _ _ _ _ rfl rfl w'.heap.size 0 (List.replicate ks.length (.int .i64 0)) 3 hr1' (ints ks) hil (fun _ => ⟨rfl, _, rfl, hsrc⟩) hfit (ints_one ks) w'.heap.size w' hb1 (Nat.le_refl _) ?_)
      intro w2 hr2 hb2
      have hrow2 : Row w2 w'.heap.size 3 (ints ks) := by
        have h1 := hr2.out
        have e : splice (List.replicate ks.length (Value.int .i64 0)) 0 (ints ks) = ints ks := by
          unfold splice
          rw [ints_length]
          simp
        rw [e] at h1
        exact h1
      clear hr2
      go_wp2
      go_meet
      refine ⟨.inr ⟨w'.heap.size, 0, ks.length, rfl, Nat.le_refl _, hrow2.lt, fun j hj => ?_⟩, hb2⟩
      rw [Nat.zero_add]
      exact hrow2.cell (ints_at ks j hj)
  case rest =>
    obtain ⟨hka, hbc⟩ := hcut
    clear hk
    have hsc := hbc.size
    go_wp2_with fail
    refine (zzread_any _ pre ks wc (by omega) (by omega) hI hka (Lib.tabBelow_of_tabIs (hT wc hbc))).mono ?_
    rintro e w2 ⟨rfl, hb2⟩
    have hkb : KeysAt w2.heap.size w2 u1 ks := hka.on hb2 hb2.size
    have hbc2 : Below w'.heap.size w' w2 := hbc.trans (hb2.mono hsc)
    clear hka hbc hb2
    obtain ⟨ak, ck, rfl⟩ : ∃ ak ck, u1 = .slice ak ks.length ck := by
      rcases hkb with ⟨h1, rfl⟩ | ⟨kb, off, c2, h1, _⟩
      · exact ⟨none, 0, h1⟩
      · exact ⟨_, _, h1⟩
    obtain ⟨st, hst⟩ : ∃ st, st = selText ks := ⟨_, rfl⟩
    rw [← hst]
    have HST := Lib.hid hst
    clear hst
    go_wp2_with (first | refine wpList_make_own _ rfl _ _ 22 rfl w2.heap.size 3 i3 (.int .i64 0) 1 Tryd.underlying22 hi3 hz30 hz31 .i64 .i64 _ (2 * ks.length) rfl rfl (by omega) (by rw [hz32]; omega) (by unfold maxLen; omega) (Nat.le_refl _) ?_)
    intro w3 hown3 hg3
    have hb3 : Below w2.heap.size w2 w3 := ⟨hg3.os, hg3.tape, hg3.output, hg3.size, fun k hk => hg3.block k hk (by simp)⟩
    clear hg3
    go_wp2
    go_loopw [10, 11] (fun v i wr => ∃ k : Nat, k ≤ ks.length ∧ i = .int .i64 k ∧ wr.ownsRow w2.heap.size 3 1 v k (ints (ks.take k)) ∧ Below w2.heap.size w2 wr) (fun _ i _ => ks.length - (intOf i).toNat)
    case atStart => exact ⟨0, Nat.zero_le _, rfl, by simpa [ints] using hown3, hb3⟩
    case round =>
      clear hown3 hb3
      obtain ⟨k, hk, rfl, hown, hbw⟩ := hrel
      have hszr := hbw.size
      by_cases hlt : k < ks.length
      · obtain ⟨x, hx⟩ : ∃ x, x = ks.getD k 0 := ⟨_, rfl⟩
        have hxt : ints (ks.take k) ++ [.int .i64 x] = ints (ks.take (k + 1)) := by rw [hx, getD_at _ _ hlt, List.take_succ_eq_append_getElem hlt, ints_snoc]
        have HXT := Lib.hid hxt
        rcases hkb with ⟨h1, h2⟩ | ⟨kb, off, c2, h1, hc2, hkb2, hcells⟩
        · exfalso; rw [h2] at hlt; simp at hlt
        · cases h1
          have hcx : wr.cell? ⟨kb, off + k, none⟩ = some (.int .i64 x) := by rw [hx]; exact (hbw.cell (by exact hkb2)).trans (hcells k hlt)
          clear hx hxt hcells
          go_wp2_with (at_builtin; refine wpList_append_own _ rfl _ _ 22 rfl w2.heap.size 3 i3 (.int .i64 0) 1 8 Tryd.underlying22 hi3 hz30 hz31 hz32 rfl (by decide) _ _ _ rfl (hown.alloc _) ⟨wr.heap.size, 0, none⟩ 1 1 [Value.int .i64 x] rfl rfl (cell_one_new _ _ _) (by intro u' hu'; simp at hu'; subst hu'; rfl) (by unfold maxLen; omega) (by omega) (by simp; omega) ?_)
          intro v1 w4 hown4 hg4 _
          have hb4 : Below w2.heap.size w2 w4 := (hbw.alloc (by omega) _).grown hg4 (by simp; omega) (fun k hk => (hown.lt k hk).1)
          rw [HXT.out] at hown4
          clear hg4 hown hbw hcx
          go_wp2
          go_roundw
          case rel => exact ⟨k + 1, by omega, by go_num, hown4, hb4⟩
          case measure => simp [intOf]; omega
      · have hke : k = ks.length := by omega
        subst hke
        rw [List.take_length] at hown
        go_wp2
        go_loopw [10, 12] (fun v i wr => ∃ k : Nat, k ≤ ks.length ∧ i = .int .i64 k ∧ wr.ownsRow w2.heap.size 3 1 v (ks.length + k) (ints (ks ++ ks.take k)) ∧ Below w2.heap.size w2 wr) (fun _ i _ => ks.length - (intOf i).toNat)
        case atStart => exact ⟨0, Nat.zero_le _, rfl, by simpa [ints] using hown, hbw⟩
        case round =>
          clear hown hbw hszr
          obtain ⟨k, hk, rfl, hown, hbw⟩ := hrel
          have hszr := hbw.size
          by_cases hlt : k < ks.length
          · obtain ⟨x, hx⟩ : ∃ x, x = ks.getD k 0 := ⟨_, rfl⟩
            have hxt : ints (ks ++ ks.take k) ++ [.int .i64 x] = ints (ks ++ ks.take (k + 1)) := by rw [hx, getD_at _ _ hlt, List.take_succ_eq_append_getElem hlt, ← List.append_assoc, ints_snoc]
            have HXT := Lib.hid hxt
            rcases hkb with ⟨h1, h2⟩ | ⟨kb, off, c2, h1, hc2, hkb2, hcells⟩
            · exfalso; rw [h2] at hlt; simp at hlt
            · cases h1
              have hcx : wr.cell? ⟨kb, off + k, none⟩ = some (.int .i64 x) := by rw [hx]; exact (hbw.cell (by exact hkb2)).trans (hcells k hlt)
              clear hx hxt hcells
              go_wp2_with (at_builtin; refine wpList_append_own _ rfl _ _ 22 rfl w2.heap.size 3 i3 (.int .i64 0) 1 8 Tryd.underlying22 hi3 hz30 hz31 hz32 rfl (by decide) _ _ _ rfl (hown.alloc _) ⟨wr.heap.size, 0, none⟩ 1 1 [Value.int .i64 x] rfl rfl (cell_one_new _ _ _) (by intro u' hu'; simp at hu'; subst hu'; rfl) (by unfold maxLen; omega) (by omega) (by simp; omega) ?_)
              intro v1 w4 hown4 hg4 _
              have hb4 : Below w2.heap.size w2 w4 := (hbw.alloc (by omega) _).grown hg4 (by simp; omega) (fun k hk => (hown.lt k hk).1)
              rw [HXT.out] at hown4
              clear hg4 hown hbw hcx
              go_wp2
              go_roundw
              case rel => exact ⟨k + 1, by omega, by go_num, hown4, hb4⟩
              case measure => simp [intOf]; omega
          · have hke : k = ks.length := by omega
            subst hke
            rw [List.take_length] at hown
            obtain ⟨dk, hdk⟩ : ∃ dk, dk = ks ++ ks := ⟨_, rfl⟩
            have hdl : dk.length = ks.length + ks.length := by rw [hdk]; simp
            have hdI : ∀ x ∈ dk, I64 x := by rw [hdk]; intro x hx; rcases List.mem_append.1 hx with h | h <;> exact hI x h
            have hdc : dCount dk = dCount ks := by rw [hdk]; exact dCount_append_sub ks ks (fun x hx => hx)
            rw [← hdk] at hown
            have hkd : KeysAt wr.heap.size wr u10 dk := by
              rcases hown.2 with ⟨h1, h2⟩ | ⟨g, cap, cur, h1, _, hg, hnc, _, _, _⟩
              · exact .inl ⟨h1, List.eq_nil_of_length_eq_zero (by omega)⟩
              · subst h1
                refine .inr ⟨g, 0, cap, by rw [hdl], by omega, lt_of_block hg, fun j hj => ?_⟩
                have := hown.cells (g := g) rfl j _ (ints_at dk j hj)
                rwa [Addr.add_lit] at this
            have hks4 := hkb.on hbw (Nat.le_refl _)
            have hks5 : KeysAt wr.heap.size wr (.slice ak ks.length ck) ks := hkb.on hbw hszr
            have hb5 := hbc2.trans (hbw.mono hbc2.size)
            have hstb : st.length ≤ 44 + 22 * 4096 := by rw [HST.out, selText_length]; have := joinD_le ks hI; omega
            obtain ⟨rd, hrd⟩ : ∃ r, r = dCount ks := ⟨_, rfl⟩
            have HDK := Lib.hid hdk
            have HDC := Lib.hid hdc
            clear hdk hdc hown hkb hbw hks4
            go_wp2_with fail
            refine (zzread_any u10 st dk wr (by omega) (by omega) hdI hkd (Lib.tabBelow_of_tabIs (hT wr hb5))).mono ?_
            rintro e w6 ⟨rfl, hb6⟩
            have hs6 := hb6.size
            have hb6' := hb5.trans (hb6.mono hb5.size)
            have hkd6 := hkd.on hb6 (Nat.le_refl _)
            have hks6 := hks5.on hb6 (Nat.le_refl _)
            obtain ⟨st2, hst2⟩ : ∃ st, st = selText dk := ⟨_, rfl⟩
            rw [← hst2, HDC.out]
            have HST2 := Lib.hid hst2
            have hpa1 := parse_any ks w6 (by omega) hI
            rw [← HST.out] at hpa1
            clear hst2 hkd hks5 hb6 hb5 hrd
            have hst2b : st2.length ≤ 44 + 22 * 8192 := by rw [HST2.out, selText_length]; have := joinD_le dk hdI; omega
            go_wp2_with fail
            refine hpa1.mono ?_
            clear hpa1
            rintro e w7 ⟨v7, rfl, hp7, hb7⟩
            have hs7 := hb7.size
            have hb7' := hb6'.trans (hb7.mono hb6'.size)
            have hkd7 := hkd6.on (hb7.mono hs6) (Nat.le_refl _)
            have hks7 := hks6.on (hb7.mono hs6) (Nat.le_refl _)
            clear hb7 hb6' hkd6 hks6
            go_wp2_with fail
            refine (same_any _ _ v7 _ ks w7 (by omega) hp7 hks7).mono ?_
            rintro e w8 ⟨rfl, n8, rfl⟩
            have hb8 : Below w'.heap.size w' (w7.drewN n8) := below_drewN hb7' _
            have hkd8 : KeysAt wr.heap.size (w7.drewN n8) u10 dk := hkd7
            have hpa2 := parse_any dk (w7.drewN n8) (by omega) hdI
            rw [← HST2.out] at hpa2
            clear hp7 hks7 hkd7 hb7'
            go_wp2_with fail
            refine hpa2.mono ?_
            clear hpa2
            rintro e w9 ⟨v9, rfl, hp9, hb9⟩
            have hs9 : w7.heap.size ≤ w9.heap.size := hb9.size
            have hb9' := hb8.trans (hb9.mono hb8.size)
            have hsz7 : wr.heap.size ≤ (w7.drewN n8).heap.size := by show wr.heap.size ≤ w7.heap.size; omega
            have hkd9 := hkd8.on (hb9.mono hsz7) (Nat.le_refl _)
            clear hb9 hb8 hkd8
            have hcat1 := cat_toList pre st
            have hcat2 := cat_toList st st2
            go_wp2_with fail
            refine (same_any _ _ v9 u10 dk w9 (by omega) hp9 hkd9).mono ?_
            rintro e w10 ⟨rfl, n10, rfl⟩
            have hb10 : Below w'.heap.size w' (w9.drewN n10) := below_drewN hb9' _
            clear hp9 hkd9 hb9'
            go_wp2
            go_ret
            exact ⟨rfl, hb10⟩
end Go.Proofs.Qxb6627884aDoor

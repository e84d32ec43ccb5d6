/-
  THE WALK of zzParseSelect (10) on the text that read writes.
-/
import Derived.Test.Qxb6627884aDoorProg
import Derived.Test.Qxb6627884aDoorPlain2
import Derived.Test.Qxb6627884aDoorMem
import Derived.Test.Qxb6627884aDoorDec
import Derived.Test.Qxb6627884aDoorDist
import Derived.Lib.Hide
import Derived.Lib.Strings
import Derived.Deep.DeepCutAuto
namespace Go.Proofs.Qxb6627884aDoor
open Go.RowKit
open Go.Lib (decDigits itoa nDigits)

theorem Tryd.info2 : (Tryd.prog.info? 2).map (fun i => (i.zero, i.size, i.bytes)) = some (some (.int .i64 0), 1, 8) := by kernel_rfl

theorem sel_head (ks : List Int) : (((⟨(selText ks).toArray⟩ : ByteArray)).extract 0 43).toList = selHead := by
  rw [Go.ByteArray.toList_eq, Lib.extract_data]
  show ((selText ks).drop 0).take (43 - 0) = selHead
  unfold selText
  rw [List.drop_zero, List.append_assoc]
  exact List.take_left' rfl

theorem sel_last (ks : List Int) (h : 43 + (joinD ks).length < (⟨(selText ks).toArray⟩ : ByteArray).size) : ((⟨(selText ks).toArray⟩ : ByteArray)[43 + (joinD ks).length]'h).toNat = 41 := by
  show (((selText ks).toArray)[43 + (joinD ks).length]).toNat = 41
  have e : (selHead ++ joinD ks).length = 43 + (joinD ks).length := by rw [List.length_append]; rfl
  rw [List.getElem_toArray]
  unfold selText
  rw [List.getElem_append_right (by omega)]
  simp [e]

theorem sel_body (ks : List Int) : ((⟨(selText ks).toArray⟩ : ByteArray)).extract 43 (43 + (joinD ks).length) = ⟨(joinD ks).toArray⟩ := by
  have e2 : selHead.length = 43 := rfl
  rw [ByteArray.extract_mk]
  congr 1
  apply Array.ext'
  show ((selText ks).drop 43).take (43 + (joinD ks).length - 43) = joinD ks
  unfold selText
  rw [List.append_assoc, List.drop_left' e2]
  exact List.take_left' (by omega)

theorem byte_at {bd : ByteArray} {J A B : List UInt8} {q t : Nat} {c : UInt8} (hbd : bd = ⟨J.toArray⟩) (hJ : J = A ++ B) (hq : q = A.length + t) (hB : B[t]? = some c) : ∀ h : q < bd.size, (bd[q]'h).toNat = c.toNat := by
  intro h
  subst hbd
  subst hJ
  subst hq
  show ((A ++ B).toArray[A.length + t]).toNat = c.toNat
  have ht := (List.getElem?_eq_some_iff.1 hB)
  rw [List.getElem_toArray, List.getElem_append_right (by omega)]
  congr 1
  have e : A.length + t - A.length = t := by omega
  simp only [e]
  exact ht.2

theorem wrap_neg (g : Nat) (h : g ≤ 9223372036854775808) : wrap64 (IntKind.u64.wrap (-(g : Int))) = -(g : Int) := by
  rw [IntKind.wrap_u64]
  unfold wrap64
  omega

theorem ints_snoc (l : List Int) (x : Int) : ints (l ++ [x]) = ints l ++ [.int .i64 x] := by simp [ints]

set_option maxHeartbeats 3000000 in
set_option maxRecDepth 100000 in
theorem parse_any (ks : List Int) (w : World) (hl : ks.length ≤ 8192) (hI : ∀ x ∈ ks, I64 x) :
    Calls Tryd.prog 10 #[.string ⟨(selText ks).toArray⟩] w fun e w' => ∃ v, e = .returned (.tuple #[v, .bool true]) ∧ w'.ownsRow w.heap.size 2 1 v ks.length (ints ks) ∧ Below w.heap.size w w' := by
  obtain ⟨i0, hi, hz0, hz1, hz2⟩ := info_parts Tryd.info2
  have hjl := joinD_le ks hI
  have hhd := sel_head ks
  have hlast := sel_last ks
  have hbody := sel_body ks
  unfold selHead at hhd
  obtain ⟨sb, hsb⟩ : ∃ sb : ByteArray, sb = ⟨(selText ks).toArray⟩ := ⟨_, rfl⟩
  obtain ⟨N, hN⟩ : ∃ N, N = (joinD ks).length := ⟨_, rfl⟩
  have hsz : sb.size = 44 + N := by rw [hsb, hN]; exact selText_length ks
  rw [← hN] at hjl
  rw [← hsb] at hhd
  rw [← hsb, ← hN] at hbody
  rw [← hsb]
  have hlast2 : ∀ h : 43 + N < sb.size, (sb[43 + N]'h).toNat = 41 := by subst hsb; subst hN; exact hlast
  have HBO := Lib.hid hbody
  have HSB := Lib.hid hsb
  have HN := Lib.hid hN
  clear hsb hN hlast hbody
  go_enter Tryd.func10, Tryd.ntmps10
  go_upto_if 35 with fail
  obtain ⟨bd, hbd⟩ : ∃ bd, bd = sb.extract 43 (44 + N - 1) := ⟨_, rfl⟩
  rw [← hbd]
  have hb0 : bd = ⟨(joinD ks).toArray⟩ := by rw [hbd, show 44 + N - 1 = 43 + N by omega]; exact HBO.out
  have hbsz : bd.size = N := by rw [hb0, HN.out]; rfl
  have HBD := Lib.hid hb0
  clear hbd hb0 HBO HSB hhd hlast2 hsz
  by_cases hk0 : ks.length = 0
  · have hks : ks = [] := List.eq_nil_of_length_eq_zero hk0
    have hN0 : N = 0 := by rw [HN.out, hks]; rfl
    subst hks
    subst hN0
    go_wp2
    go_ret2
    exact ⟨_, rfl, World.ownsRow_nil _ _ _ _, Below.refl _ _⟩
  · have hN1 : 1 ≤ N := by
      rw [HN.out]
      cases hq : ks with
      | nil => rw [hq] at hk0; simp at hk0
      | cons a l => exact joinD_pos a l
    have hNb : ((N : Int) == 0) = false := by rw [beq_eq_false_iff_ne]; omega
    rw [hNb]
    clear hNb
    go_wp2
    go_loopw [6, 7] (fun v i wr => ∃ (m p : Nat) (A : List UInt8), m < ks.length ∧ i = .int .i64 p ∧ p < N ∧ A.length = p ∧ joinD ks = A ++ joinD (ks.drop m) ∧ wr.ownsRow w.heap.size 2 1 v m (ints (ks.take m)) ∧ Below w.heap.size w wr) (fun _ i _ => N - (intOf i).toNat)
    case atStart => exact ⟨0, 0, [], by omega, rfl, by omega, rfl, by simp, by simpa [ints] using World.ownsRow_nil _ _ _ _, Below.refl _ _⟩
    case round =>
      obtain ⟨m, p, A, hm, rfl, hpN, hA, hJ, hown, hbw⟩ := hrel
      have hszr := hbw.size
      obtain ⟨x, hx⟩ : ∃ x, x = ks.getD m 0 := ⟨_, rfl⟩
      have hxI : I64 x := by rw [hx, getD_at _ _ hm]; exact hI _ (List.getElem_mem hm)
      have hjd := joinD_drop ks m hm
      rw [← hx] at hjd
      obtain ⟨D, hD⟩ : ∃ D, D = decDigits x.natAbs := ⟨_, rfl⟩
      obtain ⟨R, hR⟩ : ∃ R, R = tailD (ks.drop (m + 1)) := ⟨_, rfl⟩
      rw [← hD, ← hR] at hjd
      have hDl : D.length ≤ 20 := by rw [hD]; exact decDigits_le _ (by obtain ⟨_, _⟩ := hxI; omega)
      have hD1 : 1 ≤ D.length := by rw [hD, Lib.decDigits_length]; exact Lib.nDigits_pos _
      have hdig : ∀ c ∈ D, 48 ≤ c.toNat ∧ c.toNat ≤ 57 := by rw [hD]; exact dec_digit _
      have hvalD : val D = x.natAbs := by rw [hD]; exact val_dec _
      have HX := Lib.hid hx
      have HR := Lib.hid hR
      have HDG := Lib.hid hdig
      have HVD := Lib.hid hvalD
      have hJ2 : joinD ks = A ++ (sgn x ++ (D ++ R)) := by rw [hJ, hjd]
      have hNl : N = p + (sgn x).length + D.length + R.length := by rw [HN.out, hJ2]; simp only [List.length_append]; omega
      have HNL := Lib.hid hNl
      have HJ := Lib.hid hJ2
      have HA := Lib.hid hA
      clear hx hD hR hjd hdig hvalD hJ hJ2 hA hNl
      have hc0 : ∃ c0 : Nat, (∀ h : p < bd.size, (bd[p]'h).toNat = c0) ∧ ((x < 0 ∧ c0 = 45) ∨ (0 ≤ x ∧ 48 ≤ c0 ∧ c0 ≤ 57)) := by
        by_cases hn : x < 0
        · refine ⟨45, byte_at (t := 0) (c := 45) HBD.out HJ.out (by rw [HA.out]; rfl) ?_, .inl ⟨hn, rfl⟩⟩
          unfold sgn
          rw [if_pos hn]
          rfl
        · have hd0 := HDG.out (D[0]'(by omega)) (List.getElem_mem _)
          refine ⟨(D[0]'(by omega)).toNat, byte_at (t := 0) HBD.out HJ.out (by rw [HA.out]; rfl) ?_, .inr ⟨by omega, hd0⟩⟩
          unfold sgn
          rw [if_neg hn, List.nil_append, List.getElem?_append_left (by omega), List.getElem?_eq_getElem]
      obtain ⟨c0, hc0, hcx⟩ := hc0
      obtain ⟨p2, hp2⟩ : ∃ p2, p2 = p + (sgn x).length := ⟨_, rfl⟩
      have hp2b : p2 + D.length ≤ N := by have := HNL.out; omega
      obtain ⟨neg, hneg⟩ : ∃ b, b = decide (x < 0) := ⟨_, rfl⟩
      have hs1 : x < 0 → (sgn x).length = 1 := fun h => by unfold sgn; rw [if_pos h]; rfl
      have hs0 : ¬ x < 0 → (sgn x).length = 0 := fun h => by unfold sgn; rw [if_neg h]; rfl
      have HP2 := Lib.hid hp2
      have HNEG := Lib.hid hneg
      have HS1 := Lib.hid hs1
      have HS0 := Lib.hid hs0
      clear hp2 hneg hs1 hs0
      go_upto_if 44 with fail
      go_cut [7, 8] (fun i b wc => i = .int .i64 p2 ∧ b = .bool neg ∧ wc = wr)
      case first =>
        rcases hcx with ⟨hn, hc45⟩ | ⟨hn, h48, h57⟩
        · subst hc45
          have e1 := HS1.out hn
          go_wp2_with fail
          go_meet
          exact ⟨int_eq (by rw [HP2.out, e1]; omega), by rw [HNEG.out]; simp [hn], rfl⟩
        · have e1 := HS0.out (by omega)
          have hcb : ((c0 : Int) == 45) = false := by rw [beq_eq_false_iff_ne]; omega
          go_wp2_with fail
          go_meet
          exact ⟨int_eq (by rw [HP2.out, e1]; omega), by rw [HNEG.out]; simp; omega, rfl⟩
      case rest =>
        obtain ⟨rfl, rfl, rfl⟩ := hcut
        go_wp2
        go_loop [7, 10] (fun i mag => ∃ (t q g : Nat), t ≤ D.length ∧ Hid (q = p2 + t) ∧ i = .int .i64 q ∧ mag = .int .u64 g ∧ Hid (g = val (D.take t))) (fun i _ => N - (intOf i).toNat)
        case atStart => exact ⟨0, p2, 0, Nat.zero_le _, rfl, rfl, rfl, rfl⟩
        case round =>
          obtain ⟨t, q, g, ht, HQ, rfl, rfl, HG⟩ := hrel
          have hqb : q ≤ N := by have := HQ.out; omega
          have hqp : p2 ≤ q := by have := HQ.out; omega
          by_cases htl : t < D.length
          · obtain ⟨c, hc⟩ : ∃ c, c = (D[t]'htl).toNat := ⟨_, rfl⟩
            have hcd := HDG.out (D[t]'htl) (List.getElem_mem _)
            rw [← hc] at hcd
            obtain ⟨hc48, hc57⟩ := hcd
            have hbq : ∀ h : q < bd.size, (bd[q]'h).toNat = c := by
              rw [hc]
              refine byte_at (A := A ++ sgn x) (B := D ++ R) (t := t) HBD.out (by rw [HJ.out]; simp) (by rw [HQ.out, HP2.out, List.length_append, HA.out]) ?_
              rw [List.getElem?_append_left htl, List.getElem?_eq_getElem]
            have hqN : q < N := by have := HQ.out; omega
            have hq20 : (q : Int) - (p2 : Int) < 20 := by have := HQ.out; omega
            have hv := val_take_succ D t htl
            rw [← HG.out, ← hc] at hv
            have hvl := val_take_le D (t + 1)
            rw [HVD.out, hv] at hvl
            have hgb : g * 10 + (c - 48) < 18446744073709551616 := by obtain ⟨_, _⟩ := hxI; omega
            have HV := Lib.hid hv
            clear hv hvl hc
            go_wp2
            go_round
            case rel => exact ⟨t + 1, q + 1, g * 10 + (c - 48), by omega, by have := HQ.out; show q + 1 = p2 + (t + 1); omega, by go_num, int_eq (by omega), HV.out.symm⟩
            case measure => simp [intOf]; omega
          · have htD : t = D.length := by omega
            have hgx : g = x.natAbs := by rw [HG.out, htD, List.take_length]; exact HVD.out
            have hqd : q = p2 + D.length := by rw [HQ.out, htD]
            have hne : ((q : Int) == (p2 : Int)) = false := by rw [beq_eq_false_iff_ne]; omega
            have HGX := Lib.hid hgx
            have HQD := Lib.hid hqd
            have hg63 : g ≤ 9223372036854775808 := by rw [hgx]; obtain ⟨_, _⟩ := hxI; omega
            have hmx : ints (ks.take m) ++ [.int .i64 x] = ints (ks.take (m + 1)) := by rw [List.take_succ_eq_append_getElem hm, HX.out, getD_at _ _ hm, ints_snoc]
            have HMX := Lib.hid hmx
            clear htD hgx hqd HQ HG htl ht hmx
            by_cases hlast : m + 1 = ks.length
            · have hqN : q = N := by
                have hR0 : R = [] := by rw [HR.out, hlast, List.drop_length]; rfl
                have h1 := HNL.out
                rw [hR0] at h1
                have := HQD.out
                have := HP2.out
                simp at h1
                omega
              have hq1 : ¬ ((q : Int) < (N : Int)) := by omega
              have hq2 : ((q : Int) == (N : Int)) = true := by rw [hqN]; simp
              clear hqN
              have hfin : ∀ (wz : World) (vz : Value), wz.ownsRow w.heap.size 2 1 vz (m + 1) (ints (ks.take (m + 1))) → wz.ownsRow w.heap.size 2 1 vz ks.length (ints ks) := by
                intro wz vz hz
                rw [hlast, List.take_length] at hz
                exact hz
              have HFIN := Lib.hid hfin
              clear hfin hlast
              cases neg
              · have hxp : 0 ≤ x := by have := HNEG.out; simp at this; exact this
                have hgb : (g : Int) ≤ 9223372036854775807 := by obtain ⟨_, _⟩ := hxI; rw [HGX.out]; omega
                go_wp2_with (at_builtin; refine wpList_append_own _ rfl _ _ 29 rfl w.heap.size 2 i0 (.int .i64 0) 1 8 Tryd.underlying29 hi hz0 hz1 hz2 rfl (by decide) _ _ _ rfl (hown.alloc _) ⟨wc.heap.size, 0, none⟩ 1 1 [_] rfl rfl (cell_one_new _ _ _) (by intro u' hu'; simp at hu'; subst hu'; rfl) (by unfold maxLen; omega) (by omega) (by simp; omega) ?_)
                intro v1 w1 hown1 hg1 _
                have hb1 : Below w.heap.size w w1 := (hbw.alloc (by omega) _).grown hg1 (by simp; omega) (fun k hk => (hown.lt k hk).1)
                rw [show (g : Int) = x by rw [HGX.out]; omega, HMX.out] at hown1
                have hown3 := HFIN.out w1 v1 hown1
                clear hown1 hg1 hown hbw
                go_wp2
                go_ret2
                exact ⟨_, rfl, hown3, hb1⟩
              · have hxn : x < 0 := by have := HNEG.out; simpa using this.symm
                go_wp2_with (at_builtin; refine wpList_append_own _ rfl _ _ 29 rfl w.heap.size 2 i0 (.int .i64 0) 1 8 Tryd.underlying29 hi hz0 hz1 hz2 rfl (by decide) _ _ _ rfl (hown.alloc _) ⟨wc.heap.size, 0, none⟩ 1 1 [_] rfl rfl (cell_one_new _ _ _) (by intro u' hu'; simp at hu'; subst hu'; rfl) (by unfold maxLen; omega) (by omega) (by simp; omega) ?_)
                intro v1 w1 hown1 hg1 _
                have hb1 : Below w.heap.size w w1 := (hbw.alloc (by omega) _).grown hg1 (by simp; omega) (fun k hk => (hown.lt k hk).1)
                have hown2 : w1.ownsRow w.heap.size 2 1 v1 (m + 1) (ints (ks.take (m + 1))) := by
                  rw [← HMX.out]
                  have hxg : x = -(g : Int) := by rw [HGX.out]; omega
                  rw [hxg]
                  simpa only [wrap_neg g hg63] using hown1
                clear hown1
                have hown1 := hown2
                clear hown2
                have hown3 := HFIN.out w1 v1 hown1
                clear hown1 hg1 hown hbw
                go_wp2
                go_ret2
                exact ⟨_, rfl, hown3, hb1⟩
            · have hm1 : m + 1 < ks.length := by omega
              have hRt : R = 44 :: 32 :: joinD (ks.drop (m + 1)) := by rw [HR.out, tailD_drop ks (m + 1) hm1]
              have hRl : 3 ≤ R.length := by
                rw [hRt, List.drop_eq_getElem_cons hm1]
                have := joinD_pos ks[m + 1] (ks.drop (m + 1 + 1))
                simp only [List.length_cons]
                omega
              have hNR : N = q + R.length := by have := HNL.out; have := HQD.out; have := HP2.out; omega
              have hq4 : q + 2 < N := by omega
              have hbq : ∀ h : q < bd.size, (bd[q]'h).toNat = 44 := byte_at (A := A ++ sgn x ++ D) (B := R) (t := 0) (c := 44) HBD.out (by rw [HJ.out]; simp) (by rw [HQD.out, HP2.out]; simp only [List.length_append, HA.out]; rfl) (by rw [hRt]; rfl)
              have hbq1 : ∀ h : q + 1 < bd.size, (bd[q + 1]'h).toNat = 32 := byte_at (A := A ++ sgn x ++ D) (B := R) (t := 1) (c := 32) HBD.out (by rw [HJ.out]; simp) (by rw [HQD.out, HP2.out]; simp only [List.length_append, HA.out]) (by rw [hRt]; rfl)
              have HAL := Lib.hid (show (A ++ sgn x ++ D ++ [44, 32]).length = q + 2 by rw [HQD.out, HP2.out]; simp only [List.length_append, HA.out]; rfl)
              have HJJ := Lib.hid (show joinD ks = A ++ sgn x ++ D ++ [44, 32] ++ joinD (ks.drop (m + 1)) by rw [HJ.out, hRt]; simp)
              have hpq : p ≤ q := by have := HQD.out; have := HP2.out; omega
              have hq5 : ((q : Int) == (N : Int)) = false := by rw [beq_eq_false_iff_ne]; omega
              clear hNR hRl hRt hlast
              cases neg
              · have hxp : 0 ≤ x := by have := HNEG.out; simp at this; exact this
                have hgb : (g : Int) ≤ 9223372036854775807 := by obtain ⟨_, _⟩ := hxI; rw [HGX.out]; omega
                go_wp2_with (at_builtin; refine wpList_append_own _ rfl _ _ 29 rfl w.heap.size 2 i0 (.int .i64 0) 1 8 Tryd.underlying29 hi hz0 hz1 hz2 rfl (by decide) _ _ _ rfl (hown.alloc _) ⟨wc.heap.size, 0, none⟩ 1 1 [_] rfl rfl (cell_one_new _ _ _) (by intro u' hu'; simp at hu'; subst hu'; rfl) (by unfold maxLen; omega) (by omega) (by simp; omega) ?_)
                intro v1 w1 hown1 hg1 _
                have hb1 : Below w.heap.size w w1 := (hbw.alloc (by omega) _).grown hg1 (by simp; omega) (fun k hk => (hown.lt k hk).1)
                rw [show (g : Int) = x by rw [HGX.out]; omega, HMX.out] at hown1
                clear hg1 hown hbw
                go_wp2
                go_roundw
                case rel => exact ⟨m + 1, q + 2, A ++ sgn x ++ D ++ [44, 32], by omega, by go_num, hq4, HAL.out, HJJ.out, hown1, hb1⟩
                case measure => simp [intOf]; omega
              · have hxn : x < 0 := by have := HNEG.out; simpa using this.symm
                go_wp2_with (at_builtin; refine wpList_append_own _ rfl _ _ 29 rfl w.heap.size 2 i0 (.int .i64 0) 1 8 Tryd.underlying29 hi hz0 hz1 hz2 rfl (by decide) _ _ _ rfl (hown.alloc _) ⟨wc.heap.size, 0, none⟩ 1 1 [_] rfl rfl (cell_one_new _ _ _) (by intro u' hu'; simp at hu'; subst hu'; rfl) (by unfold maxLen; omega) (by omega) (by simp; omega) ?_)
                intro v1 w1 hown1 hg1 _
                have hb1 : Below w.heap.size w w1 := (hbw.alloc (by omega) _).grown hg1 (by simp; omega) (fun k hk => (hown.lt k hk).1)
                have hown2 : w1.ownsRow w.heap.size 2 1 v1 (m + 1) (ints (ks.take (m + 1))) := by
                  rw [← HMX.out]
                  have hxg : x = -(g : Int) := by rw [HGX.out]; omega
                  rw [hxg]
                  simpa only [wrap_neg g hg63] using hown1
                clear hown1
                have hown1 := hown2
                clear hown2
                clear hg1 hown hbw
                go_wp2
                go_roundw
                case rel => exact ⟨m + 1, q + 2, A ++ sgn x ++ D ++ [44, 32], by omega, by go_num, hq4, HAL.out, HJJ.out, hown1, hb1⟩
                case measure => simp [intOf]; omega
end Go.Proofs.Qxb6627884aDoor

/-
  THE WALK of zzAppendDec (function 7): the decimal form of an int64, appended to bytes that the call owns.
-/
import Derived.Test.Qxb6627884aDoorProg
import Derived.Test.Qxb6627884aDoorPlain
import Derived.Test.Qxb6627884aDoorMem
import Derived.Lib.AppendIntMem
import Derived.Lib.Hide
import Derived.Deep.DeepCutAuto
namespace Go.Proofs.Qxb6627884aDoor
open Go.RowKit
open Go.Lib (decDigits itoa nDigits byteCells)

theorem Tryd.info5 : (Tryd.prog.info? 5).map (fun i => (i.zero, i.size, i.bytes)) = some (some (.int .u8 0), 1, 1) := by kernel_rfl

/-- Two values are one number. -/
theorem int_eq {k : IntKind} {a b : Int} (h : a = b) : Value.int k a = Value.int k b := by rw [h]

theorem wrapU (x : Int) (h : 0 ≤ x) (h2 : x < 18446744073709551616) : IntKind.u64.wrap x = x := by rw [IntKind.wrap_u64]; omega

/-- What the call owns (bytes) is no block of another kind. -/
theorem ownsRow_ne {w : World} {B n T g : Nat} {v : Value} {xs L : List Value} (h : w.ownsRow B 5 1 v n xs) (hr : Row w g T L) (hT : T ≠ 5) : v.ownBlock ≠ some g := by
  intro e
  rcases h.2 with ⟨rfl, _⟩ | ⟨g', cap, cur, rfl, hb, hg, _⟩
  · simp [Value.ownBlock] at e
  · simp [Value.ownBlock] at e
    subst e
    unfold Row at hr
    rw [hr] at hg
    simp at hg
    exact hT hg.2

/-- Twenty cells: the first are the digits, the last ahead. -/
def TmpIs (C : List Value) (ds : List UInt8) : Prop := C.length = 20 ∧ C.take ds.length = byteCells ds

theorem TmpIs.nil : TmpIs (List.replicate 20 (Value.int .u8 0)) [] := ⟨by simp, by simp [byteCells]⟩

theorem TmpIs.push {C : List Value} {ds : List UInt8} (h : TmpIs C ds) (hl : ds.length < 20) (c : UInt8) : TmpIs (C.set ds.length (.int .u8 c.toNat)) (ds ++ [c]) := by
  refine ⟨by simp [h.1], ?_⟩
  have hlt : ds.length < C.length := by rw [h.1]; exact hl
  rw [List.length_append, List.length_cons, List.length_nil, Nat.zero_add, List.take_succ_eq_append_getElem (by simpa using hlt)]
  rw [List.take_set_of_le (Nat.le_refl _), h.2]
  simp [byteCells]

theorem TmpIs.at {C : List Value} {ds : List UInt8} (h : TmpIs C ds) (j : Nat) (hj : j < ds.length) : C[j]? = some (.int .u8 (ds[j]).toNat) := by
  have e : (C.take ds.length)[j]? = C[j]? := by rw [List.getElem?_take]; simp [hj]
  rw [← e, h.2]
  simp [byteCells, hj]

theorem byteCells_rev (ds : List UInt8) (m : Nat) (h : m < ds.length) : byteCells (ds.drop (m + 1)).reverse ++ [Value.int .u8 ((ds[m]).toNat : Int)] = byteCells (ds.drop m).reverse := by
  rw [List.drop_eq_getElem_cons h, List.reverse_cons]
  unfold byteCells
  rw [List.map_append]
  rfl

theorem ofNat_toNat (u : Nat) (h : u < 10) : ((UInt8.ofNat (48 + u)).toNat : Int) = 48 + (u : Int) := by
  have : (UInt8.ofNat (48 + u)).toNat = 48 + u := by simp; omega
  rw [this]; omega

theorem decDigits_big {u : Nat} (h : ¬ u < 10) : decDigits u = decDigits (u / 10) ++ [UInt8.ofNat (48 + u % 10)] := by rw [decDigits, dif_neg h]

set_option maxHeartbeats 1600000 in
theorem appendDec_any (B n : Nat) (i : Int) (hi64 : I64 i) (sv : Value) (xs : List Value) (w : World) (hown : w.ownsRow B 5 1 sv n xs) (hBw : B ≤ w.heap.size) (hlim : n ≤ 1048576) :
    Calls Tryd.prog 7 #[sv, .int .i64 i] w fun e w' => ∃ v', e = .returned v' ∧ w'.ownsRow B 5 1 v' (n + (itoa i).length) (xs ++ byteCells (itoa i)) ∧ Below B w w' := by
  obtain ⟨i0, hi, hz0, hz1, hz2⟩ := info_parts Tryd.info5
  obtain ⟨hi1, hi2⟩ := hi64
  go_enter Tryd.func7, Tryd.ntmps7
  go_upto_if 11 with fail
  go_cut [0, 5] (fun v u wc => ∃ (n1 u1 : Nat) (xs1 : List Value), u = .int .u64 u1 ∧ u1 < 18446744073709551616 ∧ n1 ≤ n + 1 ∧ wc.ownsRow B 5 1 v n1 xs1 ∧ Below B w wc ∧ n + (itoa i).length = n1 + (decDigits u1).length ∧ xs ++ byteCells (itoa i) = xs1 ++ byteCells (decDigits u1))
  case first =>
    by_cases hneg : i < 0
    · go_wp2_with (at_builtin; refine wpList_append_own _ rfl _ _ 26 rfl B 5 i0 (.int .u8 0) 1 1 Tryd.underlying26 hi hz0 hz1 hz2 rfl (by decide) _ _ _ rfl (hown.alloc _) ⟨w.heap.size, 0, none⟩ 1 1 [Value.int .u8 45] rfl rfl (cell_one_new _ _ _) (by intro u' hu'; simp at hu'; subst hu'; rfl) (by unfold maxLen; omega) (by omega) (by simp; omega) ?_)
      intro v1 w1 hown1 hgrow _
      have hb1 : Below B w w1 := ((Below.refl B w).alloc hBw _).grown hgrow (by simp; omega) (fun k hk => (hown.lt k hk).1)
      clear hgrow
      go_wp2
      go_meet
      have e1 : itoa i = 45 :: decDigits i.natAbs := by unfold itoa; rw [if_pos (by omega)]
      refine ⟨n + 1, i.natAbs, xs ++ [.int .u8 45], ?_, by omega, by omega, hown1, hb1, by rw [e1, List.length_cons]; omega, by rw [e1]; simp [byteCells]⟩
      exact int_eq (by simp only [IntKind.wrap_u64]; omega)
    · go_wp2_with fail
      go_meet
      have e1 : itoa i = decDigits i.natAbs := by unfold itoa; rw [if_neg (by omega)]; congr 1; omega
      exact ⟨n, i.natAbs, xs, int_eq (by simp only [IntKind.wrap_u64]; omega), by omega, by omega, hown, Below.refl _ _, by rw [e1], by rw [e1]⟩
  case rest =>
    obtain ⟨n1, u1, xs1, rfl, hu1, hn1, hown1, hb1, heL, heX⟩ := hcut
    have hnd := decDigits_le u1 hu1
    have HL := Lib.hid heL
    have HX := Lib.hid heX
    clear heL heX hown
    have hsz := hb1.size
    go_wp2
    have hr0 : Row (wc.alloc (.cells #[.int .u8 0, .int .u8 0, .int .u8 0, .int .u8 0, .int .u8 0, .int .u8 0, .int .u8 0, .int .u8 0, .int .u8 0, .int .u8 0, .int .u8 0, .int .u8 0, .int .u8 0, .int .u8 0, .int .u8 0, .int .u8 0, .int .u8 0, .int .u8 0, .int .u8 0, .int .u8 0] 45)) wc.heap.size 45 (List.replicate 20 (Value.int .u8 0)) := Row.new wc 45 (List.replicate 20 (Value.int .u8 0))
    go_loopw [5, 7] (fun u j wr => ∃ (u2 : Nat) (ds : List UInt8) (C : List Value), u = .int .u64 u2 ∧ u2 ≤ u1 ∧ j = .int .i64 ds.length ∧ decDigits u1 = decDigits u2 ++ ds.reverse ∧ Row wr wc.heap.size 45 C ∧ TmpIs C ds ∧ wr.ownsRow B 5 1 u0 n1 xs1 ∧ Below B w wr ∧ wc.heap.size < wr.heap.size) (fun u _ _ => (intOf u).toNat)
    case atStart => exact ⟨u1, [], _, rfl, Nat.le_refl _, rfl, by simp, hr0, TmpIs.nil, hown1.alloc _, hb1.alloc (by omega) _, by simp⟩
    case round =>
      clear hr0
      obtain ⟨u2, ds, C, rfl, hu2, rfl, hdd, hr, hT, hownr, hbr, hszr⟩ := hrel
      have hdl : (decDigits u2).length + ds.length ≤ 20 := by rw [hdd] at hnd; simpa using hnd
      have hd1 : 1 ≤ (decDigits u2).length := by rw [Lib.decDigits_length]; exact Lib.nDigits_pos _
      have hfz := hr.frozen ds.length
      have hlt : ds.length < 20 := by omega
      obtain ⟨z, hcz⟩ : ∃ z, wr.cell? ⟨wc.heap.size, ds.length, none⟩ = some z := ⟨_, hr.cell (List.getElem?_eq_getElem (by rw [hT.1]; exact hlt))⟩
      have hne := ownsRow_ne hownr hr (by decide)
      by_cases h10 : u2 < 10
      · obtain ⟨ds2, hds2⟩ : ∃ d, d = ds ++ [UInt8.ofNat (48 + u2)] := ⟨_, rfl⟩
        have HD := Lib.hid (show decDigits u1 = ds2.reverse by rw [hdd, Lib.decDigits_one h10, hds2]; simp)
        have hT2 := hT.push hlt (UInt8.ofNat (48 + u2))
        have hr2 := hr.set ds.length (.int .u8 ((UInt8.ofNat (48 + u2)).toNat : Int))
        rw [← hds2] at hT2
        rw [ofNat_toNat u2 h10] at hr2 hT2
        obtain ⟨C2, hC2⟩ : ∃ d, d = C.set ds.length (Value.int .u8 (48 + (u2 : Int))) := ⟨_, rfl⟩
        rw [← hC2] at hr2 hT2
        have hlen2 : ds2.length = ds.length + 1 := by rw [hds2]; simp
        have HLE := Lib.hid hlen2
        have HT := Lib.hid hT2
        have HR := Lib.hid hr2
        have HO := Lib.hid (ownsRow_setCell_other (a := ⟨wc.heap.size, ds.length, none⟩) hownr hne (.int .u8 (48 + (u2 : Int))))
        have hds20 : ds2.length ≤ 20 := by omega
        clear hT2 hr2 hdd hdl hlen2 hC2 hds2
        go_wp2
        go_loopw [0, 7] (fun v j wx => ∃ m : Nat, m ≤ ds2.length ∧ j = .int .i64 m ∧ wx.ownsRow B 5 1 v (n1 + (ds2.length - m)) (xs1 ++ byteCells (ds2.drop m).reverse) ∧ Row wx wc.heap.size 45 C2 ∧ Below B w wx) (fun _ j _ => (intOf j).toNat)
        case atStart =>
          refine ⟨ds2.length, Nat.le_refl _, int_eq (by rw [HLE.out]; omega), ?_, HR.out, hbr.setCell (by show B ≤ wc.heap.size; omega) _⟩
          simpa [byteCells] using HO.out
        case round =>
          clear hfz hcz hne hownr hbr hr hT hown1
          obtain ⟨m, hm, rfl, hownx, hrx, hbx⟩ := hrel
          by_cases hm0 : m = 0
          · subst hm0
            have HOF : Hid (wr.ownsRow B 5 1 u0 (n + (itoa i).length) (xs ++ byteCells (itoa i))) := by
              have h1 := hownx
              rw [Nat.sub_zero, List.drop_zero] at h1
              rw [HL.out, HX.out, HD.out, List.length_reverse]
              exact h1
            go_wp2
            go_ret
            exact ⟨_, rfl, HOF.out, hbx⟩
          · obtain ⟨m, rfl⟩ : ∃ m', m = m' + 1 := ⟨m - 1, by omega⟩
            have hml : m < ds2.length := by omega
            obtain ⟨cv, hcv⟩ : ∃ c : Int, c = ((ds2[m]).toNat : Int) := ⟨_, rfl⟩
            have hcell : wr.cell? ⟨wc.heap.size, m, none⟩ = some (.int .u8 cv) := by rw [hcv]; exact hrx.cell (HT.out.at m hml)
            have hszx := hbx.size
            have HE := Lib.hid (show byteCells (ds2.drop (m + 1)).reverse ++ [Value.int .u8 cv] = byteCells (ds2.drop m).reverse by
              rw [hcv]; exact byteCells_rev ds2 m hml)
            have hne2 := ownsRow_ne hownx hrx (by decide)
            clear hcv
            go_wp2_with (at_builtin; refine wpList_append_own _ rfl _ _ 26 rfl B 5 i0 (.int .u8 0) 1 1 Tryd.underlying26 hi hz0 hz1 hz2 rfl (by decide) _ _ _ rfl (hownx.alloc _) ⟨wr.heap.size, 0, none⟩ 1 1 [Value.int .u8 cv] rfl rfl (cell_one_new _ _ _) (by intro u' hu'; simp at hu'; subst hu'; rfl) (by unfold maxLen; omega) (by omega) (by simp; omega) ?_)
            intro v1 w1 hown2 hgrow _
            have hb2 : Below B w w1 := (hbx.alloc (by omega) _).grown hgrow (by simp; omega) (fun k hk => (hownx.lt k hk).1)
            have hr2 : Row w1 wc.heap.size 45 C2 := (hrx.alloc _).grown hgrow (fun e => hne2 e.symm)
            clear hgrow hrx hownx hne2 hcell
            go_wp2
            go_roundw
            case rel =>
              refine ⟨m, by omega, by go_num, ?_, hr2, hb2⟩
              rw [HE.out, show n1 + (ds2.length - (m + 1)) + 1 = n1 + (ds2.length - m) by omega] at hown2
              exact hown2
            case measure => simp [intOf]
      · have hc10 := decDigits_big h10
        have HD := Lib.hid (show decDigits u1 = decDigits (u2 / 10) ++ (ds ++ [UInt8.ofNat (48 + u2 % 10)]).reverse by rw [hdd, hc10]; simp)
        have hT2 := hT.push hlt (UInt8.ofNat (48 + u2 % 10))
        have hr2 := hr.set ds.length (.int .u8 ((UInt8.ofNat (48 + u2 % 10)).toNat : Int))
        rw [ofNat_toNat (u2 % 10) (by omega)] at hr2 hT2
        have HT := Lib.hid hT2
        have HR := Lib.hid hr2
        have HO := Lib.hid (ownsRow_setCell_other (a := ⟨wc.heap.size, ds.length, none⟩) hownr hne (.int .u8 (48 + ((u2 % 10 : Nat) : Int))))
        clear hT2 hr2 hdd hdl hc10
        go_wp2
        go_roundw
        case rel => exact ⟨u2 / 10, ds ++ [UInt8.ofNat (48 + u2 % 10)], _, by go_num, by omega, int_eq (by simp), HD.out, HR.out, HT.out, HO.out, hbr.setCell (by show B ≤ wc.heap.size; omega) _, by simpa using hszr⟩
        case measure => simp [intOf]; omega
end Go.Proofs.Qxb6627884aDoor

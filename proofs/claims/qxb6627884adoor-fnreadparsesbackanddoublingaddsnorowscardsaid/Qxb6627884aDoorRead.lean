/-
  THE WALK of bench.read (13).
-/
import Derived.Test.Qxb6627884aDoorBuild
import Derived.Test.Qxb6627884aDoorInt
import Derived.Test.Qxb6627884aDoorDist
import Derived.Deep.DeepCutAuto
import Derived.Deep.LoopGhost
namespace Go.Proofs.Qxb6627884aDoor
open Go.RowKit
open Go.Lib (decDigits itoa nDigits byteCells)

theorem Bd.grownT {B b d T : Nat} {bs L : List Value} {w w' : World} (h : Bd B b bs w) (hg : w.grownBy w' (some d)) (hr : Row w d T L) (hT : T ≠ 5) (hT2 : T ≠ 35) : Bd B b bs w' := by
  have key : ∀ p, Lib.BuilderAtF 35 5 B b p bs w → Lib.BuilderAtF 35 5 B b p bs w' := by
    intro p hp
    have hlt := hp.lt
    obtain ⟨hB, v, hb, hown, hne⟩ := hp
    have hbd : b ≠ d := by
      intro e; subst e
      unfold Row at hr
      rw [hr] at hb
      simp at hb
      exact hT2 hb.2
    have hvd : v.ownBlock ≠ some d := Lib.ownBlock_neF hown hr hT
    exact ⟨hB, v, (hg.block b hlt (by simpa using hbd)).trans hb, hown.kept hg (.inr hvd), hne⟩
  rcases h with h | h
  · exact .inl (key _ h)
  · exact .inr (key _ h)

theorem Bd.grown {B b d : Nat} {bs L : List Value} {w w' : World} (h : Bd B b bs w) (hg : w.grownBy w' (some d)) (hr : Row w d 45 L) : Bd B b bs w' := h.grownT hg hr (by decide) (by decide)

theorem grownBy_setCell (w : World) (p : Addr) (v : Value) : w.grownBy (w.setCell p v) (some p.block) :=
  ⟨rfl, rfl, rfl, by simp, fun k _ hk => Below.heap_setCell _ _ _ _ (fun e => hk (by rw [e]))⟩

theorem Bd.alloc {B b : Nat} {bs : List Value} {w : World} (h : Bd B b bs w) (o : Obj) : Bd B b bs (w.alloc o) := by
  rcases h with h | h
  · exact .inl (h.alloc o)
  · exact .inr (h.alloc o)

theorem Bd.lt {B b : Nat} {bs : List Value} {w : World} (h : Bd B b bs w) : b < w.heap.size := by
  rcases h with h | h
  · exact h.lt
  · exact h.lt
theorem Bd.le {B b : Nat} {bs : List Value} {w : World} (h : Bd B b bs w) : B ≤ b := by
  rcases h with h | h
  · exact h.1
  · exact h.1

/-- A block of another kind stays behind a writer. -/
theorem Keeps.row {B b g T : Nat} {L : List Value} {w w' : World} (h : Keeps B b w w') (hr : Row w g T L) (hT : T ≠ 5) (hne : g ≠ b) : Row w' g T L :=
  h.2 g _ hr (by simpa using hne) (by intro c fz e; simp at e; exact hT e.2.1)

theorem Row.ne_bd {B b g T : Nat} {bs L : List Value} {w : World} (hr : Row w g T L) (h : Bd B b bs w) (hT : T ≠ 35) : g ≠ b := by
  intro e; subst e
  unfold Row at hr
  rcases h with h | h
  · obtain ⟨_, v, hb, _⟩ := h
    rw [hr] at hb; simp at hb; exact hT hb.2
  · obtain ⟨_, v, hb, _⟩ := h
    rw [hr] at hb; simp at hb; exact hT hb.2

theorem strCells_bytes (l : List UInt8) : Lib.strCells ⟨l.toArray⟩ = byteCells l := rfl
theorem byteCells_append (a b : List UInt8) : byteCells (a ++ b) = byteCells a ++ byteCells b := by simp [byteCells]

theorem oneCell_bytes (l : List UInt8) : ∀ u ∈ byteCells l, u.oneCell' = true := by
  intro u hu
  simp only [byteCells, List.mem_map] at hu
  obtain ⟨b, _, rfl⟩ := hu
  rfl

theorem extract_after (a b : List UInt8) : ((⟨(a ++ b).toArray⟩ : ByteArray).extract a.length (a.length + b.length)) = ⟨b.toArray⟩ := by
  rw [ByteArray.extract_mk]
  congr 1
  simp

theorem int_eq' {k : IntKind} {a b : Int} (h : a = b) : Value.int k a = Value.int k b := by rw [h]

set_option maxHeartbeats 3000000 in
set_option maxRecDepth 100000 in
theorem read_some (B b kb off c : Nat) (pre : List UInt8) (ks : List Int) (w : World) (h : Bd B b (byteCells pre) w) (hBw : B ≤ w.heap.size)
    (hpre : pre.length ≤ 1048576) (hl : ks.length ≤ 8192) (hcap : ks.length ≤ c) (hI : ∀ x ∈ ks, I64 x)
    (hc : ∀ j, j < ks.length → w.cell? ⟨kb, off + j, none⟩ = some (.int .i64 (ks.getD j 0))) (hkb : kb < B)
    (htab : Lib.TabBelow Tryd.prog B w powName .u64 Lib.pow10Tab) :
    Calls Tryd.prog 13 #[.pointer (some ⟨b, 0, none⟩), .slice (some ⟨kb, off, none⟩) ks.length c] w fun e w' =>
      e = .returned (.agg #[.string ⟨(selText ks).toArray⟩, .bool true, .int .i64 (dCount ks)]) ∧ Bd B b (byteCells (pre ++ selText ks)) w' ∧ Below B w w' := by
  have hbl := h.le
  have hblt := h.lt
  have hpl : (byteCells pre).length = pre.length := Lib.byteCells_length pre
  go_enter Tryd.func13, Tryd.ntmps13
  go_wp2_with (go_at_call 16; refine (Tryd.Builder_Len_f B b (byteCells pre) _ (h.alloc _)).mono ?_; rintro e w1 ⟨rfl, rfl⟩)
  refine (writeString_any B b (byteCells pre) ⟨selHead.toArray⟩ _ (h.alloc _) (by rw [hpl]; show pre.length + 43 ≤ _; omega) (by simp; omega)).mono ?_
  rintro e w2 ⟨rfl, hbd2, hk2⟩
  have hR2 : Row w2 w.heap.size 41 [.string ⟨#[]⟩, .bool false, .int .i64 0] := hk2.row (Row.new w 41 [.string ⟨#[]⟩, .bool false, .int .i64 0]) (by decide) (by omega)
  have hsz2 : w.heap.size + 1 ≤ w2.heap.size := by have := hk2.1.size; simpa using this
  have hb2 : Below B w w2 := ((Below.refl B w).alloc hBw _).trans hk2.1
  rw [strCells_bytes, ← byteCells_append] at hbd2
  clear hk2
  go_wp2
  have hD0 : Row (w2.alloc (.cells #[.int .u8 0, .int .u8 0, .int .u8 0, .int .u8 0, .int .u8 0, .int .u8 0, .int .u8 0, .int .u8 0, .int .u8 0, .int .u8 0, .int .u8 0, .int .u8 0, .int .u8 0, .int .u8 0, .int .u8 0, .int .u8 0, .int .u8 0, .int .u8 0, .int .u8 0, .int .u8 0] 45)) w2.heap.size 45 (List.replicate 20 (Value.int .u8 0)) := Row.new w2 45 (List.replicate 20 (Value.int .u8 0))
  go_loopw [7, 16] (fun r i wr => ∃ k : Nat, k ≤ ks.length ∧ i = .int .i64 k ∧ r = .int .i64 (dCount (ks.take k)) ∧ Bd B b (byteCells (pre ++ selHead ++ joinD (ks.take k))) wr ∧ (∃ L, Row wr w2.heap.size 45 L ∧ L.length = 20) ∧ Row wr w.heap.size 41 [.string ⟨#[]⟩, .bool false, .int .i64 0] ∧ Below B w wr) (fun _ i _ => ks.length - (intOf i).toNat)
  case atStart =>
    refine ⟨0, Nat.zero_le _, rfl, rfl, ?_, ⟨_, hD0, by simp⟩, hR2.alloc _, hb2.alloc (by omega) _⟩
    have := hbd2.alloc (.cells #[.int .u8 0, .int .u8 0, .int .u8 0, .int .u8 0, .int .u8 0, .int .u8 0, .int .u8 0, .int .u8 0, .int .u8 0, .int .u8 0, .int .u8 0, .int .u8 0, .int .u8 0, .int .u8 0, .int .u8 0, .int .u8 0, .int .u8 0, .int .u8 0, .int .u8 0, .int .u8 0] 45)
    simpa [joinD] using this
  case round =>
    clear hD0 hR2 hbd2 hb2
    obtain ⟨k, hk, rfl, hrr, hbd, ⟨L, hD, hL20⟩, hR, hbw⟩ := hrel
    have hszr : w.heap.size ≤ wr.heap.size := hbw.size
    have hjl := joinD_le (ks.take k) (fun x hx => hI x (List.mem_of_mem_take hx))
    have htl : (ks.take k).length = k := by simp; omega
    have hdl := dCount_le (ks.take k)
    obtain ⟨d, hd⟩ : ∃ d, d = dCount (ks.take k) := ⟨_, rfl⟩
    rw [← hd] at hrr hdl
    subst hrr
    have HDC := Lib.hid hd
    clear hd
    have hneD := hD.ne_bd hbd (by decide)
    have hneR := hR.ne_bd hbd (by decide)
    have hbl : (byteCells (pre ++ selHead ++ joinD (ks.take k))).length ≤ 1048576 + 43 + 22 * 8192 := by
      rw [Lib.byteCells_length]; simp only [List.length_append]; have : selHead.length = 43 := rfl; omega
    by_cases hlt : k < ks.length
    · obtain ⟨x, hx⟩ : ∃ x, x = ks.getD k 0 := ⟨_, rfl⟩
      have hcx : wr.cell? ⟨kb, off + k, none⟩ = some (.int .i64 x) := by rw [hx]; exact (hbw.cell (by exact hkb)).trans (hc k hlt)
      have hxI : I64 x := by rw [hx, getD_at _ _ hlt]; exact hI _ (List.getElem_mem hlt)
      have hj := joinD_snoc (ks.take k) x
      have hxt : ks.take k ++ [x] = ks.take (k + 1) := by rw [hx, getD_at _ _ hlt, List.take_succ_eq_append_getElem hlt]
      have hdc := dCount_snoc (ks.take k) x
      rw [hxt] at hj hdc
      have HJ := Lib.hid hj
      have HDS := Lib.hid hdc
      clear hj hdc hx hxt
      go_upto_if 22 with fail
      go_cut [8] (fun i8 wc => i8 = .int .i64 k ∧ Bd B b (byteCells (pre ++ selHead ++ joinD (ks.take k) ++ (if (ks.take k).isEmpty then [] else [44, 32]))) wc ∧ Row wc w2.heap.size 45 L ∧ Row wc w.heap.size 41 [.string ⟨#[]⟩, .bool false, .int .i64 0] ∧ Below B w wc ∧ wr.heap.size ≤ wc.heap.size)
      case first =>
        by_cases hk0 : k = 0
        · subst hk0
          go_wp2_with fail
          go_meet
          exact ⟨rfl, by simpa using hbd, hD, hR, hbw, Nat.le_refl _⟩
        · have hke : (ks.take k).isEmpty = false := by cases hq : ks.take k with | nil => rw [hq] at htl; simp at htl; omega | cons a l => rfl
          have hki : (0 : Int) < (k : Int) := by omega
          go_wp2_with fail
          refine (writeString_any B b _ ⟨[44, 32].toArray⟩ _ hbd (by show _ + 2 ≤ _; omega) (by omega)).mono ?_
          rintro e w3 ⟨rfl, hbd3, hk3⟩
          have hD3 := hk3.row hD (by decide) hneD
          have hR3 := hk3.row hR (by decide) hneR
          rw [strCells_bytes, ← byteCells_append] at hbd3
          go_wp2
          go_meet
          exact ⟨rfl, by rw [if_neg (by rw [hke]; decide)]; exact hbd3, hD3, hR3, hbw.trans hk3.1, hk3.1.size⟩
      case rest =>
        obtain ⟨rfl, hbd3, hD3, hR3, hb3, hsz3⟩ := hcut
        clear hbd hD hR hbw hcx
        have hal : Tryd.prog.arrayLen 45 = 20 := by simp [Program.arrayLen, Tryd.underlying45]
        have hsl : ∀ W, (Instr.sliceAt 45 (.pointer (some ⟨w2.heap.size, 0, none⟩)) none (some (.int .i64 0)) none).run Tryd.prog W = .ok (.slice (some ⟨w2.heap.size, 0, none⟩) 0 20) W := fun W => by
          rw [run_sliceAt_array_h W 45 ⟨w2.heap.size, 0, none⟩ (by simp [Program.arrayLen, Program.elem, Tryd.underlying45]) .i64 0 (by omega) (by rw [hal]; omega)]
          go_simp
        clear hal
        have hDg : Dig wc w2.heap.size 0 [] := ⟨L, hD3, hL20, rfl, rfl⟩
        have hBc : B ≤ wc.heap.size := by omega
        have hlen3 : (byteCells (pre ++ selHead ++ joinD (ks.take k) ++ (if (ks.take k).isEmpty then [] else [44, 32]))).length ≤ 1048576 + 45 + 22 * 8192 := by
          rw [byteCells_append, List.length_append, Lib.byteCells_length (if (ks.take k).isEmpty then [] else [44, 32])]
          have : ((if (ks.take k).isEmpty then [] else [44, 32] : List UInt8)).length ≤ 2 := by split <;> simp
          omega
        obtain ⟨bs3, hbs3⟩ : ∃ l, l = byteCells (pre ++ selHead ++ joinD (ks.take k) ++ (if (ks.take k).isEmpty then [] else [44, 32])) := ⟨_, rfl⟩
        rw [← hbs3] at hbd3 hlen3
        have HB3 := Lib.hid hbs3
        clear hbs3
        have hnR3 := hR3.ne_bd hbd3 (by decide)
        have hnD3 := hD3.ne_bd hbd3 (by decide)
        have hRD : w.heap.size ≠ w2.heap.size := by omega
        have hile := itoa_le20 x hxI
        go_wp2_with fail
        refine (appendInt_any B w2.heap.size x hxI wc hDg (by omega) hBc (htab.on hb3)).mono ?_
        rintro e w4 ⟨rfl, hDg4, hg4⟩
        have hbd4 := hbd3.grown hg4 hD3
        have hR4 := hR3.grown hg4 (by simpa using hRD)
        have hb4 : Below B w w4 := hb3.trans (below_of_grown hg4 (by omega) hBc)
        obtain ⟨L4, hL4, hL420, -, hL4t⟩ := hDg4
        have hsz4 := hg4.size
        clear hg4 hDg hD3 hR3 hb3 hbd3
        go_wp2_with fail
        refine (write_any B b bs3 w2.heap.size (itoa x).length 20 45 L4 (byteCells (itoa x)) w4 hbd4 hL4 (by decide) hnD3 (Lib.byteCells_length _) hL4t (oneCell_bytes _) (by omega) (by omega)).mono ?_
        rintro e w5 ⟨rfl, hbd5, hk5⟩
        have hL5 := hk5.row hL4 (by decide) hnD3
        have hR5 := hk5.row hR4 (by decide) hnR3
        have hb5 : Below B w w5 := hb4.trans hk5.1
        clear hk5 hL4 hR4 hb4 hbd4
        have hc5 : ∀ j, j < ks.length → w5.cell? ⟨kb, off + j, none⟩ = some (.int .i64 (ks.getD j 0)) := fun j hj => (hb5.cell (by exact hkb)).trans (hc j hj)
        have HC5 := Lib.hid hc5
        have hkc : (k : Int) ≤ (c : Int) := by omega
        clear hc5
        have hct := Tryd.slices_Contains_int kb off k c ks x w5 (by omega) (by omega) HC5.out
        obtain ⟨q, hq⟩ : ∃ q, q = (ks.take k).contains x := ⟨_, rfl⟩
        rw [← hq] at hct
        have HQ := Lib.hid hq
        have hdS := HDS.out
        rw [← hq, ← HDC.out] at hdS
        have HDS2 := Lib.hid hdS
        have HBd : Hid (Bd B b (byteCells (pre ++ selHead ++ joinD (ks.take (k + 1)))) w5) := by
          have h1 := hbd5
          rw [HB3.out, ← byteCells_append, List.append_assoc (pre ++ selHead ++ joinD (ks.take k)), List.append_assoc (pre ++ selHead), ← HJ.out] at h1
          exact h1
        clear hq hdS hbd5 HDS
        go_wp2_with fail
        refine hct.mono ?_
        clear hct
        rintro e w6 ⟨rfl, rfl⟩
        cases q
        · go_wp2
          go_roundw
          case rel =>
            exact ⟨k + 1, by omega, by go_num, int_eq' (by rw [HDS2.out]; simp), HBd.out, ⟨L4, hL5, hL420⟩, hR5, hb5⟩
          case measure => simp [intOf]; omega
        · go_wp2
          go_roundw
          case rel =>
            exact ⟨k + 1, by omega, by go_num, int_eq' (by rw [HDS2.out]; simp), HBd.out, ⟨L4, hL5, hL420⟩, hR5, hb5⟩
          case measure => simp [intOf]; omega
    · have e1 : ks.take k = ks := List.take_of_length_le (by omega)
      rw [e1] at hbd HDC hbl
      clear hjl e1
      go_wp2_with fail
      refine (writeByte_any B b _ 41 _ hbd (by omega) (by omega)).mono ?_
      rintro e w4 ⟨rfl, hbd4, hk4⟩
      have hR4 := hk4.row hR (by decide) hneR
      have hb4 : Below B w w4 := hbw.trans hk4.1
      have hsz4 := hk4.1.size
      have e2 : byteCells (pre ++ selHead ++ joinD ks) ++ [.int .u8 41] = byteCells (pre ++ selText ks) := by simp [selText, byteCells]
      rw [e2] at hbd4
      clear hk4 hR hbd e2 hD hbw
      go_wp2_with fail
      refine (Tryd.Builder_String_any_k B b (pre ++ selText ks) w4 hbd4 (by omega)).mono ?_
      rintro e w5 ⟨rfl, hbd5, hb5, hok5⟩
      have hR5 := Keeps.row ⟨hb5, hok5⟩ hR4 (by decide) hneR
      have hc0 := hR5.cell (j := 0) rfl
      have hc1 := hR5.cell (j := 1) rfl
      have hc2 := hR5.cell (j := 2) rfl
      have hf0 := hR5.frozen 0
      have hf1 := hR5.frozen 1
      have hf2 := hR5.frozen 2
      have HE := Lib.hid (extract_after pre (selText ks))
      have HR5 := Lib.hid hR5
      have HBD5 := Lib.hid hbd5
      clear hok5 hR4 hR5 hbd5
      go_wp2
      rw [HE.out]
      have hRa := HR5.out.set 0 (.string ⟨(selText ks).toArray⟩)
      have hRb := hRa.set 1 (.bool true)
      have hRc := hRb.set 2 (.int .i64 (d : Int))
      have hBa : Bd B b _ _ := Bd.grownT HBD5.out (grownBy_setCell w5 ⟨w.heap.size, 0, none⟩ (.string ⟨(selText ks).toArray⟩)) HR5.out (by decide) (by decide)
      have hBb := hBa.grownT (grownBy_setCell _ ⟨w.heap.size, 1, none⟩ (.bool true)) hRa (by decide) (by decide)
      have hBc := hBb.grownT (grownBy_setCell _ ⟨w.heap.size, 2, none⟩ (.int .i64 (d : Int))) hRb (by decide) (by decide)
      have q0 := hRc.cell (j := 0) rfl
      have q1 := hRc.cell (j := 1) rfl
      have q2 := hRc.cell (j := 2) rfl
      have hbE : Below B w (((w5.setCell ⟨w.heap.size, 0, none⟩ (.string ⟨(selText ks).toArray⟩)).setCell ⟨w.heap.size, 1, none⟩ (.bool true)).setCell ⟨w.heap.size, 2, none⟩ (.int .i64 (d : Int))) := (((hb4.trans hb5).setCell (by exact hBw) _).setCell (by exact hBw) _).setCell (by exact hBw) _
      generalize (((w5.setCell ⟨w.heap.size, 0, none⟩ (.string ⟨(selText ks).toArray⟩)).setCell ⟨w.heap.size, 1, none⟩ (.bool true)).setCell ⟨w.heap.size, 2, none⟩ (.int .i64 (d : Int))) = wE at q0 q1 q2 hBc hbE ⊢
      refine bodyPost_ret (v := .agg #[.string ⟨(selText ks).toArray⟩, .bool true, .int .i64 (d : Int)]) (by simp [results, Tryd.results13, go_sem, q0, q1, q2]) rfl ⟨?_, hBc, hbE⟩
      rw [HDC.out]
set_option maxHeartbeats 3000000 in
set_option maxRecDepth 100000 in
theorem read_nil (B b : Nat) (pre : List UInt8) (w : World) (h : Bd B b (byteCells pre) w) (hBw : B ≤ w.heap.size) (hpre : pre.length ≤ 1048576) :
    Calls Tryd.prog 13 #[.pointer (some ⟨b, 0, none⟩), .slice none 0 0] w fun e w' =>
      e = .returned (.agg #[.string ⟨(selText []).toArray⟩, .bool true, .int .i64 (dCount [])]) ∧ Bd B b (byteCells (pre ++ selText [])) w' ∧ Below B w w' := by
  have hbl := h.le
  have hblt := h.lt
  have hpl : (byteCells pre).length = pre.length := Lib.byteCells_length pre
  go_enter Tryd.func13, Tryd.ntmps13
  go_wp2_with (go_at_call 16; refine (Tryd.Builder_Len_f B b (byteCells pre) _ (h.alloc _)).mono ?_; rintro e w1 ⟨rfl, rfl⟩)
  refine (writeString_any B b (byteCells pre) ⟨selHead.toArray⟩ _ (h.alloc _) (by rw [hpl]; show pre.length + 43 ≤ _; omega) (by simp; omega)).mono ?_
  rintro e w2 ⟨rfl, hbd2, hk2⟩
  have hR2 : Row w2 w.heap.size 41 [.string ⟨#[]⟩, .bool false, .int .i64 0] := hk2.row (Row.new w 41 [.string ⟨#[]⟩, .bool false, .int .i64 0]) (by decide) (by omega)
  have hsz2 : w.heap.size + 1 ≤ w2.heap.size := by have := hk2.1.size; simpa using this
  have hb2 : Below B w w2 := ((Below.refl B w).alloc hBw _).trans hk2.1
  rw [strCells_bytes, ← byteCells_append] at hbd2
  clear hk2
  have hbl2 : (byteCells (pre ++ selHead)).length ≤ 1048576 + 43 := by
    rw [Lib.byteCells_length]; simp only [List.length_append]; have : selHead.length = 43 := rfl; omega
  obtain ⟨wr, hwr⟩ : ∃ wr, wr = w2.alloc (.cells #[.int .u8 0, .int .u8 0, .int .u8 0, .int .u8 0, .int .u8 0, .int .u8 0, .int .u8 0, .int .u8 0, .int .u8 0, .int .u8 0, .int .u8 0, .int .u8 0, .int .u8 0, .int .u8 0, .int .u8 0, .int .u8 0, .int .u8 0, .int .u8 0, .int .u8 0, .int .u8 0] 45) := ⟨_, rfl⟩
  have hR := hR2.alloc (.cells #[.int .u8 0, .int .u8 0, .int .u8 0, .int .u8 0, .int .u8 0, .int .u8 0, .int .u8 0, .int .u8 0, .int .u8 0, .int .u8 0, .int .u8 0, .int .u8 0, .int .u8 0, .int .u8 0, .int .u8 0, .int .u8 0, .int .u8 0, .int .u8 0, .int .u8 0, .int .u8 0] 45)
  have hbd := hbd2.alloc (.cells #[.int .u8 0, .int .u8 0, .int .u8 0, .int .u8 0, .int .u8 0, .int .u8 0, .int .u8 0, .int .u8 0, .int .u8 0, .int .u8 0, .int .u8 0, .int .u8 0, .int .u8 0, .int .u8 0, .int .u8 0, .int .u8 0, .int .u8 0, .int .u8 0, .int .u8 0, .int .u8 0] 45)
  have hbw := hb2.alloc (by omega) (.cells #[.int .u8 0, .int .u8 0, .int .u8 0, .int .u8 0, .int .u8 0, .int .u8 0, .int .u8 0, .int .u8 0, .int .u8 0, .int .u8 0, .int .u8 0, .int .u8 0, .int .u8 0, .int .u8 0, .int .u8 0, .int .u8 0, .int .u8 0, .int .u8 0, .int .u8 0, .int .u8 0] 45)
  rw [← hwr] at hR hbd hbw
  have HWR := Lib.hid hwr
  clear hwr hR2 hbd2 hb2
  have hneR := hR.ne_bd hbd (by decide)
  have hszr : w.heap.size ≤ wr.heap.size := hbw.size
  go_wp2
  refine wp_loop_rounds 1 ?_
  rw [rounds_succ]
  go_wp2_with fail
  rw [← HWR.out]
  refine (writeByte_any B b _ 41 _ hbd (by omega) (by omega)).mono ?_
  rintro e w4 ⟨rfl, hbd4, hk4⟩
  have hR4 := hk4.row hR (by decide) hneR
  have hb4 : Below B w w4 := hbw.trans hk4.1
  have hsz4 := hk4.1.size
  have e2 : byteCells (pre ++ selHead) ++ [.int .u8 41] = byteCells (pre ++ selText []) := by simp [selText, byteCells, joinD]
  rw [e2] at hbd4
  clear hk4 hR hbd e2 hbw
  go_wp2_with fail
  refine (Tryd.Builder_String_any_k B b (pre ++ selText []) w4 hbd4 (by omega)).mono ?_
  rintro e w5 ⟨rfl, hbd5, hb5, hok5⟩
  have hR5 := Keeps.row ⟨hb5, hok5⟩ hR4 (by decide) hneR
  obtain ⟨st, hst⟩ : ∃ st, st = selText [] := ⟨_, rfl⟩
  rw [← hst] at hbd5 ⊢
  have hc0 := hR5.cell (j := 0) rfl
  have hc1 := hR5.cell (j := 1) rfl
  have hc2 := hR5.cell (j := 2) rfl
  have hf0 := hR5.frozen 0
  have hf1 := hR5.frozen 1
  have hf2 := hR5.frozen 2
  have HE := Lib.hid (extract_after pre st)
  have HR5 := Lib.hid hR5
  have HBD5 := Lib.hid hbd5
  have HST := Lib.hid hst
  clear hok5 hR4 hR5 hbd5 hst
  go_wp2
  rw [HE.out]
  have hRa := HR5.out.set 0 (.string ⟨st.toArray⟩)
  have hRb := hRa.set 1 (.bool true)
  have hRc := hRb.set 2 (.int .i64 0)
  have hBa : Bd B b _ _ := Bd.grownT HBD5.out (grownBy_setCell w5 ⟨w.heap.size, 0, none⟩ (.string ⟨st.toArray⟩)) HR5.out (by decide) (by decide)
  have hBb := hBa.grownT (grownBy_setCell _ ⟨w.heap.size, 1, none⟩ (.bool true)) hRa (by decide) (by decide)
  have hBc := hBb.grownT (grownBy_setCell _ ⟨w.heap.size, 2, none⟩ (.int .i64 0)) hRb (by decide) (by decide)
  have q0 := hRc.cell (j := 0) rfl
  have q1 := hRc.cell (j := 1) rfl
  have q2 := hRc.cell (j := 2) rfl
  have hbE : Below B w (((w5.setCell ⟨w.heap.size, 0, none⟩ (.string ⟨st.toArray⟩)).setCell ⟨w.heap.size, 1, none⟩ (.bool true)).setCell ⟨w.heap.size, 2, none⟩ (.int .i64 0)) := (((hb4.trans hb5).setCell (by exact hBw) _).setCell (by exact hBw) _).setCell (by exact hBw) _
  generalize (((w5.setCell ⟨w.heap.size, 0, none⟩ (.string ⟨st.toArray⟩)).setCell ⟨w.heap.size, 1, none⟩ (.bool true)).setCell ⟨w.heap.size, 2, none⟩ (.int .i64 0)) = wE at q0 q1 q2 hBc hbE ⊢
  refine bodyPost_ret (v := .agg #[.string ⟨st.toArray⟩, .bool true, .int .i64 0]) (by simp [results, Tryd.results13, go_sem, q0, q1, q2]) rfl ⟨?_, ?_, hbE⟩
  · rw [HST.out]; rfl
  · rw [← HST.out]; exact hBc

end Go.Proofs.Qxb6627884aDoor

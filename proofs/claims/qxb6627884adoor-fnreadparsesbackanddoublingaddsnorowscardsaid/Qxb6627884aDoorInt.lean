/-
  THE WALKS of strconv.AppendInt (18), internal/strconv.AppendInt (22), AppendUint (24) at base 10, onto an array's own cells with room for all digits.
-/
import Derived.Test.Qxb6627884aDoorProg
import Derived.Test.Qxb6627884aDoorPlain
import Derived.Test.Qxb6627884aDoorMem
import Derived.Test.Qxb6627884aDoorShelf
import Derived.Lib.AppendIntMem
namespace Go.Proofs.Qxb6627884aDoor
open Go.RowKit
open Go.Lib (decDigits itoa nDigits byteCells)

section
variable {P : Program} (w : World)

/-- 'append(dst, xs...)' with room, into a row whose block bears whatever type's number. -/
theorem run_append_room_tag (t ty e T : TypeId) (i : TypeInfo) (ht : P.underlying t = some (.slice e)) (hi : P.info? e = some i)
    (g sLen sCap : Nat) (cur : Array Value) (hg : w.heap[g]? = some (.cells cur T (0, 0)))
    (a : Addr) (m c : Nat) (news : List Value) (hl : news.length = m * i.size) (hnews : ∀ j u, news[j]? = some u → w.cell? (a.add j) = some u) (h1 : ∀ u ∈ news, u.oneCell' = true)
    (hroom : sLen + m ≤ sCap) (hfit : sLen * i.size + news.length ≤ cur.size) :
    (Builtin.append_ #[t, t] ty #[.slice (some ⟨g, 0, none⟩) sLen sCap, .slice (some a) m c]).run P w =
      .ok (.slice (some ⟨g, 0, none⟩) (sLen + m) sCap) (w.setRow g (cur.toList.take (sLen * i.size) ++ news ++ cur.toList.drop (sLen * i.size + news.length)).toArray) := by
  have hf := run_firstCells_some (P := P) w i.size m a m c news hl hnews
  have hst := run_storeCells_at P g (sLen * i.size) T news 0 cur w hg (by simpa using hfit) h1
  simp only [Nat.add_zero] at hst
  simp [Builtin.append_, run_underlying ht, sizeOf, typeInfo, hi, Builtin.lenOf, hroom, hf, Addr.add_lit, hst]

theorem run_append_room_string_tag (t u ty e T : TypeId) (i : TypeInfo) (ht : P.underlying t = some (.slice e)) (hu : P.underlying u = some .string) (hi : P.info? e = some i) (hs1 : i.size = 1)
    (g sLen sCap : Nat) (cur : Array Value) (hg : w.heap[g]? = some (.cells cur T (0, 0))) (s : ByteArray)
    (hroom : sLen + s.size ≤ sCap) (hfit : sLen + s.size ≤ cur.size) :
    (Builtin.append_ #[t, u] ty #[.slice (some ⟨g, 0, none⟩) sLen sCap, .string s]).run P w =
      .ok (.slice (some ⟨g, 0, none⟩) (sLen + s.size) sCap) (w.setRow g (cur.toList.take sLen ++ Lib.strCells s ++ cur.toList.drop (sLen + s.size)).toArray) := by
  have hf := Lib.run_firstCells_string (P := P) w 1 s
  have hst := run_storeCells_at P g sLen T (Lib.strCells s) 0 cur w hg (by simpa [Lib.strCells_length] using hfit) (Lib.strCells_oneCell s)
  simp only [Nat.add_zero, Lib.strCells_length] at hst
  simp [Builtin.append_, run_underlying ht, run_underlying hu, sizeOf, typeInfo, hi, hs1, Builtin.lenOf, hroom, hf, Addr.add_lit, hst]
end

/-- The array at block d holds the bytes xs ahead. -/
def Dig (w : World) (d n : Nat) (xs : List Value) : Prop := ∃ L, Row w d 45 L ∧ L.length = 20 ∧ xs.length = n ∧ L.take n = xs

theorem Dig.put {w : World} {d n : Nat} {xs news : List Value} {L : List Value} (hL : Row w d 45 L) (h20 : L.length = 20) (hxs : xs.length = n) (htk : L.take n = xs) (hfit : n + news.length ≤ 20) :
    Dig (w.setRow d (L.toArray.toList.take n ++ news ++ L.toArray.toList.drop (n + news.length)).toArray) d (n + news.length) (xs ++ news) := by
  refine ⟨L.take n ++ news ++ L.drop (n + news.length), ?_, ?_, ?_, ?_⟩
  · unfold Row at *
    exact setRow_heap w d _ _ 45 (0, 0) hL
  · simp; omega
  · simp [hxs]
  · rw [htk]
    exact List.take_left' (by simp [hxs])

theorem grownBy_setRow (w : World) (g : Nat) (cs : Array Value) : w.grownBy (w.setRow g cs) (some g) :=
  ⟨rfl, rfl, rfl, by simp, fun k _ hk => setRow_other w g k cs (fun e => hk (by rw [e]))⟩

/-- 'append(dst, xs...)' at the walk, dst our array. -/
theorem wpList_append_dig {P : Program} (w : World) {ops : Array Oper} {rest : List Oper} {o : Oper} {a : Act} {Q : Exit → Act → World → Prop}
    (hg : o.guard = none) (s x : Operand) (t : TypeId) (hop : o.op = Op.call { callee := Callee.builtin Builtin.append, args := #[s, x], argTypes := #[t, t] })
    (e : TypeId) (i : TypeInfo) (h1 : P.underlying t = some (.slice e)) (h2 : P.info? e = some i) (h4 : i.size = 1)
    (d n : Nat) (xs : List Value) (hs : a.eval s = .slice (some ⟨d, 0, none⟩) n 20) (hd : Dig w d n xs) (ad : Addr) (m c : Nat) (news : List Value) (hx : a.eval x = .slice (some ad) m c) (hn : news.length = m)
    (hc : ∀ j u, news[j]? = some u → w.cell? (ad.add j) = some u) (h1c : ∀ u ∈ news, u.oneCell' = true) (hfit : n + m ≤ 20)
    (hK : ∀ w', Dig w' d (n + m) (xs ++ news) → w.grownBy w' (some d) → wpList P ops Q rest (a.put o.dst (.slice (some ⟨d, 0, none⟩) (n + m) 20)) w') :
    wpList P ops Q (o :: rest) a w := by
  obtain ⟨L, hL, h20, hxs, htk⟩ := hd
  refine wpList_plain hg fun K hK' => ?_
  have hrun := run_append_room_tag (P := P) w t o.type e 45 i h1 h2 d n 20 L.toArray hL ad m c news (by rw [h4]; omega) hc h1c hfit (by rw [h4]; simp; omega)
  rw [h4, Nat.mul_one] at hrun
  unfold Oper.wp
  simp only [execOp, hop, resolve, invoke, builtin, Sem.run_bind, Sem.run_pure, Result.andThen_ok, List.map_toArray, List.map_cons, List.map_nil, hs, hx, hrun]
  have := Dig.put (news := news) hL h20 hxs htk (by omega)
  rw [hn] at this
  rw [hn]
  exact hK' _ _ (hK _ this (grownBy_setRow w d _))

theorem wpList_append_dig_string {P : Program} (w : World) {ops : Array Oper} {rest : List Oper} {o : Oper} {a : Act} {Q : Exit → Act → World → Prop}
    (hg : o.guard = none) (s x : Operand) (t u : TypeId) (hop : o.op = Op.call { callee := Callee.builtin Builtin.append, args := #[s, x], argTypes := #[t, u] })
    (e : TypeId) (i : TypeInfo) (h1 : P.underlying t = some (.slice e)) (hu : P.underlying u = some .string) (h2 : P.info? e = some i) (h4 : i.size = 1)
    (d n : Nat) (xs : List Value) (hs : a.eval s = .slice (some ⟨d, 0, none⟩) n 20) (hd : Dig w d n xs) (str : ByteArray) (hx : a.eval x = .string str) (hfit : n + str.size ≤ 20)
    (hK : ∀ w', Dig w' d (n + str.size) (xs ++ Lib.strCells str) → w.grownBy w' (some d) → wpList P ops Q rest (a.put o.dst (.slice (some ⟨d, 0, none⟩) (n + str.size) 20)) w') :
    wpList P ops Q (o :: rest) a w := by
  obtain ⟨L, hL, h20, hxs, htk⟩ := hd
  refine wpList_plain hg fun K hK' => ?_
  have hrun := run_append_room_string_tag (P := P) w t u o.type e 45 i h1 hu h2 h4 d n 20 L.toArray hL str hfit (by simp; omega)
  unfold Oper.wp
  simp only [execOp, hop, resolve, invoke, builtin, Sem.run_bind, Sem.run_pure, Result.andThen_ok, List.map_toArray, List.map_cons, List.map_nil, hs, hx, hrun]
  have := Dig.put (news := Lib.strCells str) hL h20 hxs htk (by rw [Lib.strCells_length]; omega)
  rw [Lib.strCells_length] at this
  exact hK' _ _ (hK _ this (grownBy_setRow w d _))

theorem Tryd.infoI : (Tryd.prog.info? 5).map (fun i => (i.zero, i.size, i.bytes)) = some (some (.int .u8 0), 1, 1) := by kernel_rfl

set_option maxHeartbeats 1600000 in
/-- AppendUint below 100. -/
theorem appendUint_small (d n u : Nat) (xs : List Value) (hu : u < 100) (w : World) (hd : Dig w d n xs) (hfit : n + (decDigits u).length ≤ 20) :
    Calls Tryd.prog 24 #[.slice (some ⟨d, 0, none⟩) n 20, .int .u64 u, .int .i64 10] w fun e w' => e = .returned (.slice (some ⟨d, 0, none⟩) (n + (decDigits u).length) 20) ∧ Dig w' d (n + (decDigits u).length) (xs ++ byteCells (decDigits u)) ∧ w.grownBy w' (some d) := by
  obtain ⟨i0, hi, hz0, hz1, hz2⟩ := info_parts Tryd.infoI
  have hsz : (⟨(decDigits u).toArray⟩ : ByteArray).size = (decDigits u).length := by simp [ByteArray.size]
  go_enter Tryd.func24, Tryd.ntmps24
  go_wp2_with (first
    | (go_at_call 25; refine (Tryd.internal_strconv_small u hu _).mono ?_; rintro e w' ⟨rfl, rfl⟩)
    | (at_builtin; refine wpList_append_dig_string _ rfl _ _ 26 9 rfl 5 i0 Tryd.underlying26 Tryd.underlying9 hi hz1 d n xs rfl hd ⟨(decDigits u).toArray⟩ rfl (by rw [hsz]; exact hfit) ?_))
  intro w1 hd1 hgrow
  go_wp2
  go_ret
  exact ⟨rfl, hd1, hgrow⟩

theorem grownBy_trans {a b c : World} {d : Nat} (h1 : a.grownBy b (some d)) (h2 : b.grownBy c (some d)) : a.grownBy c (some d) :=
  ⟨h2.os.trans h1.os, h2.tape.trans h1.tape, h2.output.trans h1.output, Nat.le_trans h1.size h2.size, fun k hk hne => (h2.block k (Nat.lt_of_lt_of_le hk h1.size) hne).trans (h1.block k hk hne)⟩

theorem Dig.grow {w : World} {d n k : Nat} {xs : List Value} (h : Dig w d n xs) (os : Array Obj) : Dig (Go.Sort.grow (w.drewN k) os) d n xs := by
  obtain ⟨L, hL, r⟩ := h
  refine ⟨L, ?_, r⟩
  have hl := hL.lt
  unfold Row at *
  rw [Lib.heap_grow_old w k os d hl]
  exact hL

theorem grownBy_grow (w : World) (k : Nat) (os : Array Obj) (row : Option Nat) : w.grownBy (Go.Sort.grow (w.drewN k) os) row :=
  ⟨rfl, rfl, rfl, Lib.size_grow w k os, fun j hj _ => Lib.heap_grow_old w k os j hj⟩

set_option maxHeartbeats 6400000 in
set_option maxRecDepth 100000 in
/-- AppendUint from 100 on. -/
theorem appendUint_big (d n u : Nat) (xs : List Value) (hu : 100 ≤ u) (hu64 : u < 18446744073709551616) (w : World) (hd : Dig w d n xs) (hfit : n + (decDigits u).length ≤ 20)
    (htab : Lib.TabIs Tryd.prog w powName .u64 Lib.pow10Tab) :
    Calls Tryd.prog 24 #[.slice (some ⟨d, 0, none⟩) n 20, .int .u64 u, .int .i64 10] w fun e w' => e = .returned (.slice (some ⟨d, 0, none⟩) (n + (decDigits u).length) 20) ∧ Dig w' d (n + (decDigits u).length) (xs ++ byteCells (decDigits u)) ∧ w.grownBy w' (some d) := by
  obtain ⟨i0, hi, hz0, hz1, hz2⟩ := info_parts Tryd.infoI
  have hu1 : 1 ≤ u := by omega
  have hnd20 : nDigits u ≤ 20 := Lib.nDigits_le20 u hu64
  have hal : Tryd.prog.arrayLen 57 = 24 := by simp [Program.arrayLen, Tryd.underlying57]
  have hsl : ∀ W, (Instr.sliceAt 57 (.pointer (some ⟨w.heap.size, 0, none⟩)) none (some (.int .i64 (nDigits u : Int))) none).run Tryd.prog W = .ok (.slice (some ⟨w.heap.size, 0, none⟩) (nDigits u) 24) W := fun W => by
    rw [run_sliceAt_array_h W 57 ⟨w.heap.size, 0, none⟩ (by simp [Program.arrayLen, Program.elem, Tryd.underlying57]) .i64 (nDigits u : Int) (by omega) (by rw [hal]; omega)]
    go_simp
  have hH0 := Lib.holds_zero0 w 57 (nDigits u) (by omega)
  have hfmt := Tryd.internal_strconv_formatBase10 w.heap.size 0 24 u (Array.replicate (nDigits u) 0) (w.alloc (.cells Lib.zeros24 57)) hH0 (by rw [Array.size_replicate]; exact Lib.lt_pow_nDigits u) hu64 (by rw [Array.size_replicate]; omega)
  rw [Array.size_replicate] at hfmt
  have HH0 := Lib.hid hH0
  have iu : (100 : Int) ≤ (u : Int) := by omega
  clear hH0 hal
  go_enter Tryd.func24, Tryd.ntmps24
  go_wp2_with (first
    | (go_at_call 26; refine (Tryd.internal_strconv_numDigits u hu1 hu64 _ (Lib.tabIs_alloc htab _)).mono ?_; rintro e w' ⟨rfl, rfl⟩))
  go_at_call 27
  refine hfmt.mono ?_
  rintro e w' ⟨rfl, k, v', dk, rfl, hF⟩
  have hcells : ∀ j u', (byteCells (decDigits u))[j]? = some u' → ((Go.Sort.putRow (fun (b : UInt8) => Value.int .u8 (b.toNat : Int)) (w.alloc (.cells Lib.zeros24 57)) w.heap.size 0 dk).drewN k).cell? ((⟨w.heap.size, 0, none⟩ : Addr).add j) = some u' := by
    intro j u' hj
    have hjl : j < (decDigits u).length := by
      have h5 := (List.getElem?_eq_some_iff.1 hj).1
      rwa [Lib.byteCells_length] at h5
    have e5 : (byteCells (decDigits u))[j]? = some (Value.int .u8 ((decDigits u)[j].toNat : Int)) := by simp [byteCells, hjl]
    rw [e5] at hj
    cases hj
    rw [Lib.row_is_numeral hF j hjl, Lib.add_plain, World.cell?_drewN]
    exact Go.Sort.cell?_putRow (fun (b : UInt8) => Value.int .u8 (b.toNat : Int)) _ w.heap.size 0 _ dk HH0.out (by rw [hF.size, Array.size_replicate]) j (by rw [hF.size]; rw [Lib.decDigits_length] at hjl; exact hjl)
  obtain ⟨os, eo⟩ := Lib.fin_at w (.cells Lib.zeros24 57) dk k 0
  have hd2 : Dig ((Go.Sort.putRow (fun (b : UInt8) => Value.int .u8 (b.toNat : Int)) (w.alloc (.cells Lib.zeros24 57)) w.heap.size 0 dk).drewN k) d n xs := by rw [eo]; exact hd.grow os
  have hg2 : w.grownBy ((Go.Sort.putRow (fun (b : UInt8) => Value.int .u8 (b.toNat : Int)) (w.alloc (.cells Lib.zeros24 57)) w.heap.size 0 dk).drewN k) (some d) := by rw [eo]; exact grownBy_grow w k os _
  generalize (Go.Sort.putRow (fun (b : UInt8) => Value.int .u8 (b.toNat : Int)) (w.alloc (.cells Lib.zeros24 57)) w.heap.size 0 dk).drewN k = W2 at hcells hd2 hg2 ⊢
  clear eo HH0 hfmt
  have hl : (byteCells (decDigits u)).length = nDigits u := by rw [Lib.byteCells_length, Lib.decDigits_length]
  rw [Lib.decDigits_length] at hfit
  go_wp2_with (at_builtin; refine wpList_append_dig _ rfl _ _ 26 rfl 5 i0 Tryd.underlying26 hi hz1 d n xs rfl hd2 ⟨w.heap.size, 0, none⟩ (nDigits u) 24 (byteCells (decDigits u)) rfl hl hcells ?c2 hfit ?_)
  case c2 => intro u' hu'; simp only [byteCells, List.mem_map] at hu'; obtain ⟨b, _, rfl⟩ := hu'; rfl
  intro w3 hd3 hgrow
  go_wp2
  go_ret
  rw [Lib.decDigits_length]
  exact ⟨rfl, hd3, grownBy_trans hg2 hgrow⟩

theorem appendUint_any (d n u : Nat) (xs : List Value) (hu64 : u < 18446744073709551616) (w : World) (hd : Dig w d n xs) (hfit : n + (decDigits u).length ≤ 20)
    (htab : Lib.TabIs Tryd.prog w powName .u64 Lib.pow10Tab) :
    Calls Tryd.prog 24 #[.slice (some ⟨d, 0, none⟩) n 20, .int .u64 u, .int .i64 10] w fun e w' => e = .returned (.slice (some ⟨d, 0, none⟩) (n + (decDigits u).length) 20) ∧ Dig w' d (n + (decDigits u).length) (xs ++ byteCells (decDigits u)) ∧ w.grownBy w' (some d) := by
  by_cases h : u < 100
  · exact appendUint_small d n u xs h w hd hfit
  · exact appendUint_big d n u xs (by omega) hu64 w hd hfit htab

theorem below_of_grown {w w' : World} {d B : Nat} (hg : w.grownBy w' (some d)) (hB : B ≤ d) (hBw : B ≤ w.heap.size) : Below B w w' :=
  ⟨hg.os, hg.tape, hg.output, hg.size, fun k hk => hg.block k (by omega) (by intro e; simp at e; omega)⟩

set_option maxHeartbeats 1600000 in
/-- internal/strconv.AppendInt at base 10, onto our array. -/
theorem appendInt_in (B d : Nat) (i : Int) (hi64 : I64 i) (w : World) (hd : Dig w d 0 []) (hB : B ≤ d) (hBw : B ≤ w.heap.size) (htab : Lib.TabBelow Tryd.prog B w powName .u64 Lib.pow10Tab) :
    Calls Tryd.prog 22 #[.slice (some ⟨d, 0, none⟩) 0 20, .int .i64 i, .int .i64 10] w fun e w' => e = .returned (.slice (some ⟨d, 0, none⟩) (itoa i).length 20) ∧ Dig w' d (itoa i).length (byteCells (itoa i)) ∧ w.grownBy w' (some d) := by
  obtain ⟨i0, hi, hz0, hz1, hz2⟩ := info_parts Tryd.infoI
  have hle := itoa_le20 i hi64
  obtain ⟨hi1, hi2⟩ := hi64
  by_cases hneg : i < 0
  · obtain ⟨u, rfl⟩ : ∃ u : Nat, i = -(u : Int) := ⟨i.natAbs, by omega⟩
    have hu1 : 1 ≤ u := by omega
    have hu64 : u < 18446744073709551616 := by omega
    have hwr : IntKind.u64.wrap (-IntKind.u64.wrap (-(u : Int))) = (u : Int) := by rw [IntKind.wrap_u64, IntKind.wrap_u64]; omega
    rw [Lib.itoa_neg u hu1] at hle ⊢
    have hle' : 1 + (decDigits u).length ≤ 20 := by simp at hle; omega
    have hda : Dig (w.alloc (.cells #[.int .u8 45] 5)) d 0 [] := by obtain ⟨L, hL, r⟩ := hd; exact ⟨L, hL.alloc _, r⟩
    go_enter Tryd.func22, Tryd.ntmps22
    go_wp2_with (at_builtin; refine wpList_append_dig _ rfl _ _ 26 rfl 5 i0 Tryd.underlying26 hi hz1 d 0 [] rfl hda ⟨w.heap.size, 0, none⟩ 1 1 [Value.int .u8 45] rfl rfl (cell_one_new _ _ _) (by intro u' hu'; simp at hu'; subst hu'; rfl) (by omega) ?_)
    intro w1 hd1 hgrow
    have hg1 : w.grownBy w1 (some d) := grownBy_trans (World.grownBy_alloc w _ _) hgrow
    have htab1 : Lib.TabIs Tryd.prog w1 powName .u64 Lib.pow10Tab := htab w1 (below_of_grown hg1 hB hBw)
    clear hgrow hda hd
    go_wp2_with (go_at_call 24; refine (appendUint_any d 1 u [.int .u8 45] hu64 w1 hd1 hle' htab1).mono ?_; rintro e w2 ⟨rfl, hd2, hg2⟩)
    go_wp2
    go_ret
    rw [Nat.add_comm (decDigits u).length 1]
    exact ⟨rfl, hd2, grownBy_trans hg1 hg2⟩
  · obtain ⟨u, rfl⟩ : ∃ u : Nat, i = u := ⟨i.toNat, by omega⟩
    have hu64 : u < 18446744073709551616 := by omega
    rw [Lib.itoa_nonneg] at hle ⊢
    go_enter Tryd.func22, Tryd.ntmps22
    go_wp2_with (go_at_call 24; refine (appendUint_any d 0 u [] hu64 w hd (by omega) htab.here).mono ?_; rintro e w2 ⟨rfl, hd2, hg2⟩)
    go_wp2
    go_ret
    rw [Nat.zero_add, List.nil_append] at hd2
    exact ⟨by simp, hd2, hg2⟩

set_option maxHeartbeats 400000 in
/-- strconv.AppendInt at base 10, onto our array. -/
theorem appendInt_any (B d : Nat) (i : Int) (hi64 : I64 i) (w : World) (hd : Dig w d 0 []) (hB : B ≤ d) (hBw : B ≤ w.heap.size) (htab : Lib.TabBelow Tryd.prog B w powName .u64 Lib.pow10Tab) :
    Calls Tryd.prog 18 #[.slice (some ⟨d, 0, none⟩) 0 20, .int .i64 i, .int .i64 10] w fun e w' => e = .returned (.slice (some ⟨d, 0, none⟩) (itoa i).length 20) ∧ Dig w' d (itoa i).length (byteCells (itoa i)) ∧ w.grownBy w' (some d) := by
  go_enter Tryd.func18, Tryd.ntmps18
  go_wp2_with (go_at_call 22; refine (appendInt_in B d i hi64 w hd hB hBw htab).mono ?_; rintro e w2 ⟨rfl, hd2, hg2⟩)
  go_wp2
  go_ret
  exact ⟨rfl, hd2, hg2⟩

end Go.Proofs.Qxb6627884aDoor

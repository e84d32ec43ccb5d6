/-
  THE WALK of zzAppeal (8).
-/
import Derived.Test.Qxb6628314aSub
import Derived.Deep.DeepCutAuto
import Derived.Deep.MidRow
import Derived.Laws.Rows
namespace Go.Proofs.Qxb6628314a
open Go.RowKit

/-- An appeal in plain data. -/
structure Ap where
  id : ByteArray
  sid : ByteArray
  uid : ByteArray
  st : ByteArray
  pr : Int
  rsn : ByteArray
  stm : ByteArray
  ea : Option Addr
  el : Nat
  ec : Nat
  ca : Int
  xa : Int
  hd : Bool
  oc : ByteArray
  rp : ByteArray
  nt : ByteArray
  hr : Bool
  rpts : Int
  hn : Bool
  ne : Int
  db : ByteArray
  da : Int
  ha : Bool
  vd : ByteArray
  cf : Nat
  rg : ByteArray
  aa : Int

/-- Its 25 cells. -/
def Ap.cells (a : Ap) : List Value := [.string a.id, .string a.sid, .string a.uid, .string a.st, .int .i64 a.pr, .string a.rsn, .string a.stm, .slice a.ea a.el a.ec, .int .i64 a.ca, .int .i64 a.xa, .bool a.hd, .string a.oc, .string a.rp, .string a.nt, .bool a.hr, .int .i64 a.rpts, .bool a.hn, .int .i64 a.ne, .string a.db, .int .i64 a.da, .bool a.ha, .string a.vd, .float .f64 a.cf, .string a.rg, .int .i64 a.aa]
/-- Its instants are int64s. -/
def Ap.fits (a : Ap) : Prop := (-9223372036854775808 ≤ a.ca ∧ a.ca ≤ 9223372036854775807) ∧ (-9223372036854775808 ≤ a.xa ∧ a.xa ≤ 9223372036854775807) ∧ (-9223372036854775808 ≤ a.ne ∧ a.ne ≤ 9223372036854775807) ∧ (-9223372036854775808 ≤ a.da ∧ a.da ≤ 9223372036854775807) ∧ (-9223372036854775808 ≤ a.aa ∧ a.aa ≤ 9223372036854775807)
def zero38 : List Value := [.string ⟨#[]⟩, .string ⟨#[]⟩, .string ⟨#[]⟩, .string ⟨#[]⟩, .int .i64 0, .string ⟨#[]⟩, .string ⟨#[]⟩, .slice none 0 0, .int .u64 0, .int .i64 0, .pointer none, .int .u64 0, .int .i64 0, .pointer none, .pointer none, .pointer none]
/-- The appeal that it stands for. -/
def Ap.real (a : Ap) (dp ap : Option Addr) : List Value := [.string a.id, .string a.sid, .string a.uid, .string a.st, .int .i64 a.pr, .string a.rsn, .string a.stm, .slice a.ea a.el a.ec, .int .u64 (a.ca % 1000000000), .int .i64 (a.ca / 1000000000), .pointer none, .int .u64 (a.xa % 1000000000), .int .i64 (a.xa / 1000000000), .pointer none, .pointer dp, .pointer ap]

def zero64 : List Value := [.string ⟨#[]⟩, .string ⟨#[]⟩, .string ⟨#[]⟩, .pointer none, .pointer none, .string ⟨#[]⟩, .int .u64 0, .int .i64 0, .pointer none]
def Ap.dec (a : Ap) (rpp nep : Option Addr) : List Value := [.string a.oc, .string a.rp, .string a.nt, .pointer rpp, .pointer nep, .string a.db, .int .u64 (a.da % 1000000000), .int .i64 (a.da / 1000000000), .pointer none]
def zero67 : List Value := [.string ⟨#[]⟩, .float .f64 0, .string ⟨#[]⟩, .int .u64 0, .int .i64 0, .pointer none]
def Ap.ass (a : Ap) : List Value := [.string a.vd, .float .f64 a.cf, .string a.rg, .int .u64 (a.aa % 1000000000), .int .i64 (a.aa / 1000000000), .pointer none]
/-- The decision behind the pointer dp, as far as the timeline reads it. -/
def DecAt (B : Nat) (w : World) (a : Ap) (dp : Option Addr) : Prop := (a.hd = false ∧ dp = none) ∨ (a.hd = true ∧ ∃ d, B < d ∧ dp = some ⟨d, 0, none⟩ ∧ w.cell? ⟨d, 6, none⟩ = some (.int .u64 (a.da % 1000000000)) ∧ w.cell? ⟨d, 7, none⟩ = some (.int .i64 (a.da / 1000000000)) ∧ w.cell? ⟨d, 8, none⟩ = some (.pointer none))


/-- A store of a float. -/
theorem run_store_float (P : Program) (w : World) (a : Addr) (k : FloatKind) (b : Nat) (m : Mode) : (store a (.float k b) m).run P w = stored P w a (.float k b) m := run_store P w a _ m rfl
attribute [local go_sem] run_store_float

theorem DecAt.on {B : Nat} {w w' : World} {a : Ap} {dp : Option Addr} (h : DecAt B w a dp) (hb : Below w.heap.size w w') : DecAt B w' a dp := by
  rcases h with h | ⟨h, d, hB, e, h1, h2, h3⟩
  · exact .inl h
  · exact .inr ⟨h, d, hB, e, (hb.cell (World.block_lt_of_cell? w _ h1)).trans h1, (hb.cell (World.block_lt_of_cell? w _ h2)).trans h2, (hb.cell (World.block_lt_of_cell? w _ h3)).trans h3⟩

theorem DecAt.far {B : Nat} {w : World} {a : Ap} {dp : Option Addr} (h : DecAt B w a dp) (g j : Nat) (hj : 8 < j) (u : Value) : DecAt B (w.setCell ⟨g, j, none⟩ u) a dp := by
  rcases h with h | ⟨h, d, hB, e, h1, h2, h3⟩
  · exact .inl h
  · refine .inr ⟨h, d, hB, e, ?_, ?_, ?_⟩
    · rw [World.cell?_setCell_other _ _ _ _ (fun e => by have := congrArg Addr.off e; simp at this; omega)]; exact h1
    · rw [World.cell?_setCell_other _ _ _ _ (fun e => by have := congrArg Addr.off e; simp at this; omega)]; exact h2
    · rw [World.cell?_setCell_other _ _ _ _ (fun e => by have := congrArg Addr.off e; simp at this; omega)]; exact h3

theorem DecAt.low {B : Nat} {w : World} {a : Ap} {dp : Option Addr} (h : DecAt B w a dp) (j : Nat) (u : Value) : DecAt B (w.setCell ⟨B, j, none⟩ u) a dp := by
  rcases h with h | ⟨h, d, hB, e, h1, h2, h3⟩
  · exact .inl h
  · have hne : B ≠ d := by omega
    refine .inr ⟨h, d, hB, e, ?_, ?_, ?_⟩
    · rw [World.cell?_setCell_other _ _ _ _ (fun e => hne (congrArg Addr.block e))]; exact h1
    · rw [World.cell?_setCell_other _ _ _ _ (fun e => hne (congrArg Addr.block e))]; exact h2
    · rw [World.cell?_setCell_other _ _ _ _ (fun e => hne (congrArg Addr.block e))]; exact h3

theorem DecAt.mono {B C : Nat} {w : World} {a : Ap} {dp : Option Addr} (h : DecAt B w a dp) (hC : C ≤ B) : DecAt C w a dp := by
  rcases h with h | ⟨h, d, hB, r⟩
  · exact .inl h
  · exact .inr ⟨h, d, by omega, r⟩

theorem Try.size38 : (Try.prog.info? 38).map (·.size) = some 16 := by kernel_rfl

theorem row_setCells {g T : Nat} : ∀ (vs : List Value) (o : Nat) (w : World) (A B : List Value), A.length = o → B.length = vs.length → Row w g T (A ++ B) → Row (w.setCells g o vs) g T (A ++ vs)
  | [], _, _, _, B, _, hB, h => by
    obtain rfl : B = [] := List.eq_nil_of_length_eq_zero hB
    exact h
  | v :: r, o, w, A, B, hA, hB, h => by
    cases B with
    | nil => simp at hB
    | cons b B =>
      have h1 := h.set o v
      have e : (A ++ b :: B).set o v = (A ++ [v]) ++ B := by
        rw [List.set_append_right _ _ (by omega), show o - A.length = 0 by omega]
        simp
      rw [e] at h1
      have := row_setCells r (o + 1) (w.setCell ⟨g, o, none⟩ v) (A ++ [v]) B (by simp; omega) (by simpa using hB) h1
      simpa [World.setCells] using this
theorem below_setCells' {g B : Nat} {x : World} (hg : B ≤ g) : ∀ (vs : List Value) (o : Nat) (w : World), Below B x w → Below B x (w.setCells g o vs)
  | [], _, _, h => h
  | v :: r, o, _, h => below_setCells' hg r (o + 1) _ (h.setCell hg v)
theorem keep_setCells {g k : Nat} (hk : k ≠ g) : ∀ (vs : List Value) (o : Nat) (w : World), (w.setCells g o vs).heap[k]? = w.heap[k]?
  | [], _, _ => rfl
  | v :: r, o, w => (keep_setCells hk r (o + 1) (w.setCell ⟨g, o, none⟩ v)).trans (Below.heap_setCell w ⟨g, o, none⟩ v k hk)

/-- The store of a whole struct into a block of its own. -/
theorem wpList_store_row {P : Program} {ops : Array Oper} {rest : List Oper} {op : Oper} {a : Act} {w : World} {Q : Exit → Act → World → Prop} (hgd : op.guard = none) (ty : TypeId) (x y : Operand) (ho : op.op = .store ty x y)
    (g : Nat) (hx : a.eval x = .pointer (some ⟨g, 0, none⟩)) (T : TypeId) (L0 L : List Value) (hR : Row w g T L0) (hl : L0.length = L.length) (hy : a.eval y = .agg L.toArray)
    (hi : (P.info? ty).map (·.size) = some L.length) (h1 : L.all (·.oneCell') = true)
    (h : ∀ w', Row w' g T L → (∀ B x, B ≤ g → Below B x w → Below B x w') → (∀ k, k ≠ g → w'.heap[k]? = w.heap[k]?) → wpList P ops Q rest (a.put op.dst undef) w') : wpList P ops Q (op :: rest) a w := by
  refine wpList_store_mid hgd ty x y ho g 0 L.toArray hx hy ?_ (by simpa using hi) (all_oneCell_toArray (List.all_eq_true.1 h1)) ?_
  · intro j hj
    have hj' : j < L0.length := by rw [hl]; simpa using hj
    rw [Nat.zero_add]
    exact ⟨by rw [hR.cell (List.getElem?_eq_getElem hj')]; rfl, hR.frozen j⟩
  · have := row_setCells L 0 w [] L0 rfl hl hR
    exact h _ this (fun B x hB hb => below_setCells' hB _ _ _ hb) (fun k hk => keep_setCells hk _ _ _)

theorem DecAt.keep {B g : Nat} {w w' : World} {a : Ap} {dp : Option Addr} (h : DecAt B w a dp) (hg : g ≤ B) (hk : ∀ k, k ≠ g → w'.heap[k]? = w.heap[k]?) : DecAt B w' a dp := by
  rcases h with h | ⟨h, d, hB, e, h1, h2, h3⟩
  · exact .inl h
  · have hd : w'.heap[d]? = w.heap[d]? := hk d (by omega)
    exact .inr ⟨h, d, hB, e, (World.cell?_of_block (a := ⟨d, 6, none⟩) hd).trans h1, (World.cell?_of_block (a := ⟨d, 7, none⟩) hd).trans h2, (World.cell?_of_block (a := ⟨d, 8, none⟩) hd).trans h3⟩

theorem post8 {Q : Ending → World → Prop} {T : Array Value} {W : World} {g : Nat} (a : Ap) (dp ap : Option Addr) (hT : T.getD 2 undef = .pointer (some ⟨g, 0, none⟩))
    (R : Row W g 38 (a.real dp ap)) (hQ : Q (.returned (.agg (a.real dp ap).toArray)) W) : bodyPost Try.prog Try.f8 Q .ret { tmps := T, defers := [] } W :=
  bodyPost_ret (v := .agg (a.real dp ap).toArray) (results_cell_row Try.results8 T W g 38 _ (0, 0) _ hT R Try.underlying38 rfl Try.size38) rfl hQ

set_option maxRecDepth 20000 in
set_option maxHeartbeats 8000000 in
theorem appeal_one (a : Ap) (w : World) (hf : a.fits) :
    Calls Try.prog 8 #[.agg (Ap.cells a).toArray] w fun x w' => ∃ dp ap, x = .returned (.agg (a.real dp ap).toArray) ∧ DecAt w.heap.size w' a dp ∧ Below w.heap.size w w' := by
  obtain ⟨⟨hca0, hca1⟩, ⟨hxa0, hxa1⟩, ⟨hne0, hne1⟩, ⟨hda0, hda1⟩, ⟨haa0, haa1⟩⟩ := hf
  have hat1 := fun W => at_any a.ca W hca0 hca1
  have hat3 := fun W => at_any a.da W hda0 hda1
  have hat4 := fun W => at_any a.ne W hne0 hne1
  have hat5 := fun W => at_any a.aa W haa0 haa1
  have hat2 := fun W => at_any a.xa W hxa0 hxa1
  unfold Ap.cells
  go_enter Try.func8, Try.ntmps8
  go_upto_region 1 with fail
  obtain ⟨W1, hW1⟩ : ∃ W, W = (w.alloc (.cells (Ap.cells a).toArray 25)).alloc (.cells zero38.toArray 38) := ⟨_, rfl⟩
  have r1 : Row W1 w.heap.size 25 (Ap.cells a) := by rw [hW1]; exact (Row.new w 25 (Ap.cells a)).alloc _
  have r2 : Row W1 (w.heap.size + 1) 38 zero38 := by
    have := Row.new (w.alloc (.cells (Ap.cells a).toArray 25)) 38 zero38
    rw [hW1]
    simpa using this
  have b1 : Below w.heap.size w W1 := by rw [hW1]; exact ((Below.refl _ _).alloc (Nat.le_refl _) _).alloc (by simp) _
  unfold Ap.cells zero38 at hW1
  rw [← hW1]
  clear hW1
  have hz1 : w.heap.size < W1.heap.size := r1.lt
  have hz3 : w.heap.size + 1 < W1.heap.size := r2.lt
  have n1 := Nat.ne_of_gt hz1
  have n2 := Nat.ne_of_lt hz1
  go_cut [0, 3] from 8 to 30 (fun _ p wc => ∃ g, p = .pointer (some ⟨g, 0, none⟩) ∧ Row wc g 38 (a.real none none) ∧ Below W1.heap.size W1 wc ∧ W1.heap.size ≤ g)
  case first =>
    have c0 := r1.cell (j := 0) rfl
    have c1 := r1.cell (j := 1) rfl
    have c2 := r1.cell (j := 2) rfl
    have c3 := r1.cell (j := 3) rfl
    have c4 := r1.cell (j := 4) rfl
    have c5 := r1.cell (j := 5) rfl
    have c6 := r1.cell (j := 6) rfl
    have c7 := r1.cell (j := 7) rfl
    have c8 := r1.cell (j := 8) rfl
    have c9 := r1.cell (j := 9) rfl
    go_region_held3 (fun w' => w'.cell? ⟨w.heap.size, 0, none⟩ = some (.string a.id) ∧ w'.cell? ⟨w.heap.size, 1, none⟩ = some (.string a.sid) ∧ w'.cell? ⟨w.heap.size, 2, none⟩ = some (.string a.uid) ∧ w'.cell? ⟨w.heap.size, 3, none⟩ = some (.string a.st) ∧ w'.cell? ⟨w.heap.size, 4, none⟩ = some (.int .i64 a.pr) ∧ w'.cell? ⟨w.heap.size, 5, none⟩ = some (.string a.rsn) ∧ w'.cell? ⟨w.heap.size, 6, none⟩ = some (.string a.stm) ∧ w'.cell? ⟨w.heap.size, 7, none⟩ = some (.slice a.ea a.el a.ec) ∧ w'.cell? ⟨w.heap.size, 8, none⟩ = some (.int .i64 a.ca) ∧ w'.cell? ⟨w.heap.size, 9, none⟩ = some (.int .i64 a.xa)) (first | (refine ⟨?_, ?_, ?_, ?_, ?_, ?_, ?_, ?_, ?_, ?_⟩ <;> with_reducible assumption) | (simp [*, go_sem]; done) | go_keep)
      (first | (go_at_call 11; refine (hat1 W1.drew).mono ?_; rintro x Wa ⟨rfl, hba⟩; have ra := Row.below (w := W1.drew) r1 hba hz1; have na := Nat.ne_of_gt ra.lt; have na2 := Nat.ne_of_lt ra.lt; have p0 := ra.cell (j := 0) rfl; have p1 := ra.cell (j := 1) rfl; have p2 := ra.cell (j := 2) rfl; have p3 := ra.cell (j := 3) rfl; have p4 := ra.cell (j := 4) rfl; have p5 := ra.cell (j := 5) rfl; have p6 := ra.cell (j := 6) rfl; have p7 := ra.cell (j := 7) rfl; have p8 := ra.cell (j := 8) rfl; have p9 := ra.cell (j := 9) rfl)
             | (go_at_call 11; refine (hat1 (W1.drew.alloc (.cells zero38.toArray 38))).mono ?_; rintro x Wa ⟨rfl, hba⟩; have ra := Row.below (w := W1.drew.alloc (.cells zero38.toArray 38)) (r1.alloc _) hba (by simp; omega); have na := Nat.ne_of_gt ra.lt; have na2 := Nat.ne_of_lt ra.lt; have r9 : Row Wa W1.heap.size 38 zero38 := (Row.new W1.drew 38 zero38).below hba (by simp); have p0 := ra.cell (j := 0) rfl; have p1 := ra.cell (j := 1) rfl; have p2 := ra.cell (j := 2) rfl; have p3 := ra.cell (j := 3) rfl; have p4 := ra.cell (j := 4) rfl; have p5 := ra.cell (j := 5) rfl; have p6 := ra.cell (j := 6) rfl; have p7 := ra.cell (j := 7) rfl; have p8 := ra.cell (j := 8) rfl; have p9 := ra.cell (j := 9) rfl; have k0 := r9.cell (j := 0) rfl; have kf0 := r9.frozen 0; have k1 := r9.cell (j := 1) rfl; have kf1 := r9.frozen 1; have k2 := r9.cell (j := 2) rfl; have kf2 := r9.frozen 2; have k3 := r9.cell (j := 3) rfl; have kf3 := r9.frozen 3; have k4 := r9.cell (j := 4) rfl; have kf4 := r9.frozen 4; have k5 := r9.cell (j := 5) rfl; have kf5 := r9.frozen 5; have k6 := r9.cell (j := 6) rfl; have kf6 := r9.frozen 6; have k7 := r9.cell (j := 7) rfl; have kf7 := r9.frozen 7; have k8 := r9.cell (j := 8) rfl; have kf8 := r9.frozen 8; have k9 := r9.cell (j := 9) rfl; have kf9 := r9.frozen 9; have k10 := r9.cell (j := 10) rfl; have kf10 := r9.frozen 10; have k11 := r9.cell (j := 11) rfl; have kf11 := r9.frozen 11; have k12 := r9.cell (j := 12) rfl; have kf12 := r9.frozen 12; have k13 := r9.cell (j := 13) rfl; have kf13 := r9.frozen 13; have k14 := r9.cell (j := 14) rfl; have kf14 := r9.frozen 14; have k15 := r9.cell (j := 15) rfl; have kf15 := r9.frozen 15)
             | (go_at_call 11; refine (hat2 Wa).mono ?_; rintro x Wb ⟨rfl, hbb⟩; have rb := ra.below hbb ra.lt; have nb := Nat.ne_of_gt rb.lt; have nb2 := Nat.ne_of_lt rb.lt; have q0 := rb.cell (j := 0) rfl; have q1 := rb.cell (j := 1) rfl; have q2 := rb.cell (j := 2) rfl; have q3 := rb.cell (j := 3) rfl; have q4 := rb.cell (j := 4) rfl; have q5 := rb.cell (j := 5) rfl; have q6 := rb.cell (j := 6) rfl; have q7 := rb.cell (j := 7) rfl; have q8 := rb.cell (j := 8) rfl; have q9 := rb.cell (j := 9) rfl; try (have r8 := r9.below hbb r9.lt; have l0 := r8.cell (j := 0) rfl; have lf0 := r8.frozen 0; have l1 := r8.cell (j := 1) rfl; have lf1 := r8.frozen 1; have l2 := r8.cell (j := 2) rfl; have lf2 := r8.frozen 2; have l3 := r8.cell (j := 3) rfl; have lf3 := r8.frozen 3; have l4 := r8.cell (j := 4) rfl; have lf4 := r8.frozen 4; have l5 := r8.cell (j := 5) rfl; have lf5 := r8.frozen 5; have l6 := r8.cell (j := 6) rfl; have lf6 := r8.frozen 6; have l7 := r8.cell (j := 7) rfl; have lf7 := r8.frozen 7; have l8 := r8.cell (j := 8) rfl; have lf8 := r8.frozen 8; have l9 := r8.cell (j := 9) rfl; have lf9 := r8.frozen 9; have l10 := r8.cell (j := 10) rfl; have lf10 := r8.frozen 10; have l11 := r8.cell (j := 11) rfl; have lf11 := r8.frozen 11; have l12 := r8.cell (j := 12) rfl; have lf12 := r8.frozen 12; have l13 := r8.cell (j := 13) rfl; have lf13 := r8.frozen 13; have l14 := r8.cell (j := 14) rfl; have lf14 := r8.frozen 14; have l15 := r8.cell (j := 15) rfl; have lf15 := r8.frozen 15))
             | (go_at_call 11; refine (hat2 (Wa.alloc (.cells zero38.toArray 38))).mono ?_; rintro x Wb ⟨rfl, hbb⟩; have rb := (ra.alloc (.cells zero38.toArray 38)).below hbb (by have := ra.lt; simp; omega); have nb := Nat.ne_of_gt rb.lt; have nb2 := Nat.ne_of_lt rb.lt; have r8 : Row Wb Wa.heap.size 38 zero38 := (Row.new Wa 38 zero38).below hbb (by simp); have q0 := rb.cell (j := 0) rfl; have q1 := rb.cell (j := 1) rfl; have q2 := rb.cell (j := 2) rfl; have q3 := rb.cell (j := 3) rfl; have q4 := rb.cell (j := 4) rfl; have q5 := rb.cell (j := 5) rfl; have q6 := rb.cell (j := 6) rfl; have q7 := rb.cell (j := 7) rfl; have q8 := rb.cell (j := 8) rfl; have q9 := rb.cell (j := 9) rfl; have l0 := r8.cell (j := 0) rfl; have lf0 := r8.frozen 0; have l1 := r8.cell (j := 1) rfl; have lf1 := r8.frozen 1; have l2 := r8.cell (j := 2) rfl; have lf2 := r8.frozen 2; have l3 := r8.cell (j := 3) rfl; have lf3 := r8.frozen 3; have l4 := r8.cell (j := 4) rfl; have lf4 := r8.frozen 4; have l5 := r8.cell (j := 5) rfl; have lf5 := r8.frozen 5; have l6 := r8.cell (j := 6) rfl; have lf6 := r8.frozen 6; have l7 := r8.cell (j := 7) rfl; have lf7 := r8.frozen 7; have l8 := r8.cell (j := 8) rfl; have lf8 := r8.frozen 8; have l9 := r8.cell (j := 9) rfl; have lf9 := r8.frozen 9; have l10 := r8.cell (j := 10) rfl; have lf10 := r8.frozen 10; have l11 := r8.cell (j := 11) rfl; have lf11 := r8.frozen 11; have l12 := r8.cell (j := 12) rfl; have lf12 := r8.frozen 12; have l13 := r8.cell (j := 13) rfl; have lf13 := r8.frozen 13; have l14 := r8.cell (j := 14) rfl; have lf14 := r8.frozen 14; have l15 := r8.cell (j := 15) rfl; have lf15 := r8.frozen 15))
    · have D1 : Below W1.heap.size W1 Wa := (show Below W1.heap.size W1 W1.drew from (Below.refl _ _).drew).trans hba
      have D2 := D1.trans (hbb.mono D1.size)
      go_wp2_with fail
      go_meet
      exact ⟨_, rfl, Row.new Wb 38 (a.real none none), D2.alloc D2.size _, D2.size⟩
    · have D1 : Below W1.heap.size W1 Wa := (show Below W1.heap.size W1 W1.drew from (Below.refl _ _).drew).trans hba
      have hge := D1.size
      have D2 := (D1.alloc hge (.cells zero38.toArray 38)).trans (hbb.mono (by simp; omega))
      go_wp2_with fail
      go_meet
      exact ⟨_, rfl, ((((((((((((((((r8.set 0 _).set 1 _).set 2 _).set 3 _).set 4 _).set 5 _).set 6 _).set 7 _).set 8 _).set 9 _).set 10 _).set 11 _).set 12 _).set 13 _).set 14 _).set 15 _), ((((((((((((((((D2.setCell hge _).setCell hge _).setCell hge _).setCell hge _).setCell hge _).setCell hge _).setCell hge _).setCell hge _).setCell hge _).setCell hge _).setCell hge _).setCell hge _).setCell hge _).setCell hge _).setCell hge _).setCell hge _), hge⟩
    · have D1 : Below W1.heap.size W1 Wa := (show Below W1.heap.size W1 (W1.drew.alloc (.cells zero38.toArray 38)) from (Below.refl _ _).drew.alloc (Nat.le_refl _) _).trans (hba.mono (by simp))
      have hge := Nat.le_refl W1.heap.size
      have D2 := D1.trans (hbb.mono D1.size)
      go_wp2_with fail
      go_meet
      exact ⟨_, rfl, ((((((((((((((((r8.set 0 _).set 1 _).set 2 _).set 3 _).set 4 _).set 5 _).set 6 _).set 7 _).set 8 _).set 9 _).set 10 _).set 11 _).set 12 _).set 13 _).set 14 _).set 15 _), ((((((((((((((((D2.setCell hge _).setCell hge _).setCell hge _).setCell hge _).setCell hge _).setCell hge _).setCell hge _).setCell hge _).setCell hge _).setCell hge _).setCell hge _).setCell hge _).setCell hge _).setCell hge _).setCell hge _).setCell hge _), hge⟩
  case rest =>
    obtain ⟨g, rfl, rg, bw, hg⟩ := hcut
    have r1 := r1.below bw r1.lt
    have r2 := r2.below bw r2.lt
    have bw := b1.trans (bw.mono b1.size)
    have hz2 := r2.lt
    have hgw : w.heap.size + 1 < g := by omega
    clear b1 hat1 hat2 hg hz1 n1 n2
    have c10 := r1.cell (j := 10) rfl
    go_upto_if 32 with fail
    go_cut [0, 3, 4, 5, 6] from 31 to 56 (fun _ p _ _ _ wc' => p = .pointer (some ⟨g, 0, none⟩) ∧ ∃ dp, Row wc' g 38 (a.real dp none) ∧ DecAt (w.heap.size + 1) wc' a dp ∧ Row wc' w.heap.size 25 (Ap.cells a) ∧ Row wc' (w.heap.size + 1) 38 zero38 ∧ Below w.heap.size w wc')
    case first =>
      by_cases hd : a.hd = true
      · rw [hd] at c10 ⊢
        go_upto_region 3 with fail
        obtain ⟨V1, hV1⟩ : ∃ V, V = wc := ⟨_, rfl⟩
        subst hV1
        go_cut [0, 4] from 33 to 44 (fun _ p wc => ∃ d, p = .pointer (some ⟨d, 0, none⟩) ∧ Row wc d 64 (a.dec none none) ∧ Below V1.heap.size V1 wc ∧ V1.heap.size ≤ d)
        case first =>
          have c11 := r1.cell (j := 11) rfl
          have c12 := r1.cell (j := 12) rfl
          have c13 := r1.cell (j := 13) rfl
          have c18 := r1.cell (j := 18) rfl
          have c19 := r1.cell (j := 19) rfl
          have n1 := Nat.ne_of_gt r1.lt
          have n2 := Nat.ne_of_lt r1.lt
          go_region_held3 (fun w' => w'.cell? ⟨w.heap.size, 11, none⟩ = some (.string a.oc) ∧ w'.cell? ⟨w.heap.size, 12, none⟩ = some (.string a.rp) ∧ w'.cell? ⟨w.heap.size, 13, none⟩ = some (.string a.nt) ∧ w'.cell? ⟨w.heap.size, 18, none⟩ = some (.string a.db) ∧ w'.cell? ⟨w.heap.size, 19, none⟩ = some (.int .i64 a.da)) (first | (refine ⟨?_, ?_, ?_, ?_, ?_⟩ <;> with_reducible assumption) | (simp [*, go_sem]; done) | go_keep)
            (first | (go_at_call 11; refine (hat3 V1.drew).mono ?_; rintro x Wa ⟨rfl, hba⟩; have ra := Row.below (w := V1.drew) r1 hba r1.lt; have na := Nat.ne_of_gt ra.lt; have na2 := Nat.ne_of_lt ra.lt; have p11 := ra.cell (j := 11) rfl; have p12 := ra.cell (j := 12) rfl; have p13 := ra.cell (j := 13) rfl; have p18 := ra.cell (j := 18) rfl; have p19 := ra.cell (j := 19) rfl)
                     | (go_at_call 11; refine (hat3 (V1.drew.alloc (.cells zero64.toArray 64))).mono ?_; rintro x Wa ⟨rfl, hba⟩; have ra := Row.below (w := V1.drew.alloc (.cells zero64.toArray 64)) (r1.alloc _) hba (by have := r1.lt; simp; omega); have na := Nat.ne_of_gt ra.lt; have na2 := Nat.ne_of_lt ra.lt; have r9 : Row Wa V1.heap.size 64 zero64 := (Row.new V1.drew 64 zero64).below hba (by simp); have p11 := ra.cell (j := 11) rfl; have p12 := ra.cell (j := 12) rfl; have p13 := ra.cell (j := 13) rfl; have p18 := ra.cell (j := 18) rfl; have p19 := ra.cell (j := 19) rfl; have k0 := r9.cell (j := 0) rfl; have kf0 := r9.frozen 0; have k1 := r9.cell (j := 1) rfl; have kf1 := r9.frozen 1; have k2 := r9.cell (j := 2) rfl; have kf2 := r9.frozen 2; have k3 := r9.cell (j := 3) rfl; have kf3 := r9.frozen 3; have k4 := r9.cell (j := 4) rfl; have kf4 := r9.frozen 4; have k5 := r9.cell (j := 5) rfl; have kf5 := r9.frozen 5; have k6 := r9.cell (j := 6) rfl; have kf6 := r9.frozen 6; have k7 := r9.cell (j := 7) rfl; have kf7 := r9.frozen 7; have k8 := r9.cell (j := 8) rfl; have kf8 := r9.frozen 8))
          · have D1 : Below V1.heap.size V1 Wa := (show Below V1.heap.size V1 V1.drew from (Below.refl _ _).drew).trans hba
            go_wp2_with fail
            go_meet
            exact ⟨_, rfl, Row.new Wa 64 (a.dec none none), D1.alloc D1.size _, D1.size⟩
          · have D1 : Below V1.heap.size V1 Wa := (show Below V1.heap.size V1 (V1.drew.alloc (.cells zero64.toArray 64)) from (Below.refl _ _).drew.alloc (Nat.le_refl _) _).trans (hba.mono (by simp))
            have hge := Nat.le_refl V1.heap.size
            go_wp2_with fail
            go_meet
            exact ⟨_, rfl, (((((((((r9.set 0 _).set 1 _).set 2 _).set 3 _).set 4 _).set 5 _).set 6 _).set 7 _).set 8 _), (((((((((D1.setCell hge _).setCell hge _).setCell hge _).setCell hge _).setCell hge _).setCell hge _).setCell hge _).setCell hge _).setCell hge _), hge⟩
        case rest =>
          obtain ⟨d, rfl, rd, bd, hdg⟩ := hcut
          have hgd : g < d := by have := rg.lt; omega
          have hwd : w.heap.size + 1 < d := by omega
          have r1 := r1.below bd r1.lt
          have r2 := r2.below bd r2.lt
          have rg := rg.below bd rg.lt
          have bw := bw.trans (bd.mono bw.size)
          clear c10 bd hdg hz2 hat3
          have c14 := r1.cell (j := 14) rfl
          have c15 := r1.cell (j := 15) rfl
          go_upto_if 46 with fail
          obtain ⟨V2, hV2⟩ : ∃ V, V = wc := ⟨_, rfl⟩
          subst hV2
          go_cut [0, 4, 5] from 45 to 49 (fun _ p _ wc => p = .pointer (some ⟨d, 0, none⟩) ∧ ∃ rpp, Row wc d 64 (a.dec rpp none) ∧ Row wc g 38 (a.real none none) ∧ Row wc w.heap.size 25 (Ap.cells a) ∧ Row wc (w.heap.size + 1) 38 zero38 ∧ Below w.heap.size w wc)
          case first =>
            by_cases hr : a.hr = true
            · rw [hr] at c14 ⊢
              have d3 := rd.cell (j := 3) rfl
              have f3 := rd.frozen 3
              have hdl := rd.lt
              have hdn := Nat.ne_of_lt rd.lt
              go_wp2
              go_meet
              exact ⟨rfl, some ⟨V2.heap.size, 0, none⟩, (rd.set 3 _).alloc _, (rg.other ⟨d, 3, none⟩ (by show d ≠ g; omega) _).alloc _, (r1.other ⟨d, 3, none⟩ (by show d ≠ w.heap.size; omega) _).alloc _, (r2.other ⟨d, 3, none⟩ (by show d ≠ w.heap.size + 1; omega) _).alloc _, (bw.setCell (show w.heap.size ≤ d by omega) _).alloc (by simp; omega) _⟩
            · have hr' : a.hr = false := by simpa using hr
              rw [hr'] at c14 ⊢
              go_wp2
              go_meet
              exact ⟨rfl, none, rd, rg, r1, r2, bw⟩
          case rest =>
            clear rd rg r1 r2 bw c14 c15
            obtain ⟨rfl, rpp, rd, rg, r1, r2, bw⟩ := hcut
            have c16 := r1.cell (j := 16) rfl
            have c17 := r1.cell (j := 17) rfl
            go_upto_if 51 with fail
            obtain ⟨V3, hV3⟩ : ∃ V, V = wc := ⟨_, rfl⟩
            subst hV3
            go_cut [0, 4, 6] from 50 to 55 (fun _ p _ wc => p = .pointer (some ⟨d, 0, none⟩) ∧ ∃ nep, Row wc d 64 (a.dec rpp nep) ∧ Row wc g 38 (a.real none none) ∧ Row wc w.heap.size 25 (Ap.cells a) ∧ Row wc (w.heap.size + 1) 38 zero38 ∧ Below w.heap.size w wc)
            case first =>
              by_cases hn : a.hn = true
              · rw [hn] at c16 ⊢
                go_wp2_with fail
                refine (hat4 V3).mono ?_
                rintro x V4 ⟨rfl, hb4⟩
                have rd := rd.below hb4 rd.lt
                have rg := rg.below hb4 rg.lt
                have r1 := r1.below hb4 r1.lt
                have r2 := r2.below hb4 r2.lt
                have bw := bw.trans (hb4.mono bw.size)
                clear c16 c17 hat4 hb4
                have d4 := rd.cell (j := 4) rfl
                have f4 := rd.frozen 4
                have hdl := rd.lt
                have hdn := Nat.ne_of_lt rd.lt
                go_wp2
                go_meet
                exact ⟨rfl, some ⟨V4.heap.size, 0, none⟩, (rd.set 4 _).alloc _, (rg.other ⟨d, 4, none⟩ (by show d ≠ g; omega) _).alloc _, (r1.other ⟨d, 4, none⟩ (by show d ≠ w.heap.size; omega) _).alloc _, (r2.other ⟨d, 4, none⟩ (by show d ≠ w.heap.size + 1; omega) _).alloc _, (bw.setCell (show w.heap.size ≤ d by omega) _).alloc (by simp; omega) _⟩
              · have hn' : a.hn = false := by simpa using hn
                rw [hn'] at c16 ⊢
                go_wp2
                go_meet
                exact ⟨rfl, none, rd, rg, r1, r2, bw⟩
            case rest =>
              clear rd rg r1 r2 bw c16 c17
              obtain ⟨rfl, nep, rd, rg, r1, r2, bw⟩ := hcut
              have k14 := rg.cell (j := 14) rfl
              have kf14 := rg.frozen 14
              have hge : w.heap.size ≤ g := by omega
              go_wp2
              go_meet
              have rd' := rd.other ⟨g, 14, none⟩ (by show g ≠ d; omega) (.pointer (some ⟨d, 0, none⟩))
              exact ⟨rfl, some ⟨d, 0, none⟩, rg.set 14 _,   .inr ⟨hd, d, hwd, rfl, rd'.cell (j := 6) rfl, rd'.cell (j := 7) rfl, rd'.cell (j := 8) rfl⟩, r1.other ⟨g, 14, none⟩ (by show g ≠ w.heap.size; omega) _, r2.other ⟨g, 14, none⟩ (by show g ≠ w.heap.size + 1; omega) _, bw.setCell hge _⟩
      · have hd' : a.hd = false := by simpa using hd
        rw [hd'] at c10 ⊢
        go_wp2
        go_meet
        exact ⟨rfl, none, rg, .inl ⟨hd', rfl⟩, r1, r2, bw⟩
    case rest =>
      obtain ⟨rfl, dp, rg, hdec, r1, r2, bw⟩ := hcut
      have c20 := r1.cell (j := 20) rfl
      go_upto_if 58 with fail
      obtain ⟨V5, hV5⟩ : ∃ V, V = wc := ⟨_, rfl⟩
      subst hV5
      go_cut [0, 3, 7] from 57 to 69 (fun _ p _ wc => p = .pointer (some ⟨g, 0, none⟩) ∧ ∃ asp, Row wc g 38 (a.real dp asp) ∧ DecAt (w.heap.size + 1) wc a dp ∧ Row wc (w.heap.size + 1) 38 zero38 ∧ Below w.heap.size w wc)
      case first =>
        by_cases ha : a.ha = true
        · rw [ha] at c20 ⊢
          go_upto_region 12 with fail
          go_cut [0, 7] from 59 to 68 (fun _ p wc => ∃ q, p = .pointer (some ⟨q, 0, none⟩) ∧ Below V5.heap.size V5 wc)
          case first =>
            have c21 := r1.cell (j := 21) rfl
            have c22 := r1.cell (j := 22) rfl
            have c23 := r1.cell (j := 23) rfl
            have c24 := r1.cell (j := 24) rfl
            have n1 := Nat.ne_of_gt r1.lt
            have n2 := Nat.ne_of_lt r1.lt
            go_region_held3 (fun w' => w'.cell? ⟨w.heap.size, 21, none⟩ = some (.string a.vd) ∧ w'.cell? ⟨w.heap.size, 22, none⟩ = some (.float .f64 a.cf) ∧ w'.cell? ⟨w.heap.size, 23, none⟩ = some (.string a.rg) ∧ w'.cell? ⟨w.heap.size, 24, none⟩ = some (.int .i64 a.aa)) (first | (refine ⟨?_, ?_, ?_, ?_⟩ <;> with_reducible assumption) | (simp [*, go_sem]; done) | go_keep)
              (first | (go_at_call 11; refine (hat5 V5.drew).mono ?_; rintro x Wa ⟨rfl, hba⟩; have ra := Row.below (w := V5.drew) r1 hba r1.lt; have na := Nat.ne_of_gt ra.lt; have na2 := Nat.ne_of_lt ra.lt; have p21 := ra.cell (j := 21) rfl; have p22 := ra.cell (j := 22) rfl; have p23 := ra.cell (j := 23) rfl; have p24 := ra.cell (j := 24) rfl)
                     | (go_at_call 11; refine (hat5 (V5.drew.alloc (.cells zero67.toArray 67))).mono ?_; rintro x Wa ⟨rfl, hba⟩; have ra := Row.below (w := V5.drew.alloc (.cells zero67.toArray 67)) (r1.alloc _) hba (by have := r1.lt; simp; omega); have na := Nat.ne_of_gt ra.lt; have na2 := Nat.ne_of_lt ra.lt; have r9 : Row Wa V5.heap.size 67 zero67 := (Row.new V5.drew 67 zero67).below hba (by simp); have p21 := ra.cell (j := 21) rfl; have p22 := ra.cell (j := 22) rfl; have p23 := ra.cell (j := 23) rfl; have p24 := ra.cell (j := 24) rfl; have k0 := r9.cell (j := 0) rfl; have kf0 := r9.frozen 0; have k1 := r9.cell (j := 1) rfl; have kf1 := r9.frozen 1; have k2 := r9.cell (j := 2) rfl; have kf2 := r9.frozen 2; have k3 := r9.cell (j := 3) rfl; have kf3 := r9.frozen 3; have k4 := r9.cell (j := 4) rfl; have kf4 := r9.frozen 4; have k5 := r9.cell (j := 5) rfl; have kf5 := r9.frozen 5))
            · have D1 : Below V5.heap.size V5 Wa := (show Below V5.heap.size V5 V5.drew from (Below.refl _ _).drew).trans hba
              go_wp2_with fail
              go_meet
              exact ⟨_, rfl, D1.alloc D1.size _⟩
            · have D1 : Below V5.heap.size V5 Wa := (show Below V5.heap.size V5 (V5.drew.alloc (.cells zero67.toArray 67)) from (Below.refl _ _).drew.alloc (Nat.le_refl _) _).trans (hba.mono (by simp))
              have hge := Nat.le_refl V5.heap.size
              go_wp2_with fail
              go_meet
              exact ⟨_, rfl, ((((((D1.setCell hge _).setCell hge _).setCell hge _).setCell hge _).setCell hge _).setCell hge _)⟩
          case rest =>
            obtain ⟨q, rfl, bq⟩ := hcut
            have rg := rg.below bq rg.lt
            have r2 := r2.below bq r2.lt
            have hdec := hdec.on bq
            have bw := bw.trans (bq.mono bw.size)
            clear c20 bq r1
            have k15 := rg.cell (j := 15) rfl
            have kf15 := rg.frozen 15
            go_wp2
            go_meet
            exact ⟨rfl, some ⟨q, 0, none⟩, rg.set 15 _, hdec.far g 15 (by omega) _, r2.other ⟨g, 15, none⟩ (by show g ≠ w.heap.size + 1; omega) _, bw.setCell (show w.heap.size ≤ g by omega) _⟩
        · have ha' : a.ha = false := by simpa using ha
          rw [ha'] at c20 ⊢
          go_wp2
          go_meet
          exact ⟨rfl, none, rg, hdec, r2, bw⟩
      case rest =>
        clear rg hdec r1 r2 bw c20
        obtain ⟨rfl, asp, rg, hdec, r2, bw⟩ := hcut
        go_wp2_with (first | (refine wpList_load_row rfl 38 _ rfl g rfl 38 _ (0, 0) _ rg Try.underlying38 rfl Try.size38 ?_) | (refine wpList_store_row rfl 38 _ _ rfl (w.heap.size + 1) rfl 38 zero38 (a.real dp asp) r2 rfl rfl Try.size38 rfl ?_; intro w' R' hb hk))
        exact post8 a dp asp rfl R' ⟨dp, asp, rfl, (hdec.keep (Nat.le_refl _) hk).mono (by omega), hb _ _ (by omega) bw⟩

end Go.Proofs.Qxb6628314a

/-
  No cell of these rows narrows 'for every input' (looked for: loops, veiled, ifaces, maps, wideKeys, modest, calm, conditions, laid).
  DERIVED. THE GIVEN ROWS OF THIS SEAT. 1 by the template 'for every input the law returns true; each argument reads behind the call as it read before'; 0 by the template 'total and deterministic' (their statements: Qxb6628239aTotals.lean).
  GIVEN WITH THE SEED: the statements are not yours to turn. If you find one false, say at which input.
  Laid BY PROGRAM, IN A SANDBOX (cutbox-rows.mjs): the forced cells as the released guide's own fill.sh prints them over the translation df5a90c7c2ab7e88… (all of the seat's roots in one cut). By AI agents, Wed Nov 11 2026. No macro, syntax, notation, axiom, sorry.
-/
import Derived.Test.Qxb6628239aChecked
import GoSem.Claim
import GoSem.ClaimJoined
import GoSem.ClaimMapViews
import Derived.JoinedTies
import Derived.KernelRfl
namespace Go.Proofs.Qxb6628239a
/- THE CELL 'sum', in the pinned program and in every row, IS THE sha256 OF THE DUMP (.gsa) THAT Qxb6628239aProg.lean LOADS. Nothing in Lean hashes anything: it is a label: what it is worth is what the hold of that sum in a sandbox is worth. -/
noncomputable def Try.pinned : Pinned := { name := "qxb6628239a", sum := "df5a90c7c2ab7e881c944ffed35d5092f5ee2a0bbbbf3d39ce84019918870ca6", checked := Try.checked }
namespace Rows
def none {H : Type} : Left H := { results := [], args := [] }

/-- 'zzlaws_internal_kv_b1.FnTallyIsZeroSplitsAtAnyCut': WHATEVER THE INPUT: true; the input reads as it did. -/
def fnTallyIsZeroSplitsAtAnyCutSpec : ChangeSpec := { name := "fnTallyIsZeroSplitsAtAnyCut", fn := fun _ => fun
  | [d1, d2, d3] => { results := [.lit (.bool true)], args := [d1, d2, d3] }
  | _ => none }
def fnTallyIsZeroSplitsAtAnyCutRow : OpenClaim := { program := "qxb6628239a", sum := "df5a90c7c2ab7e881c944ffed35d5092f5ee2a0bbbbf3d39ce84019918870ca6", func := "example.com/isolith/isolith/zzlaws_internal_kv_b1.FnTallyIsZeroSplitsAtAnyCut", spec := "fnTallyIsZeroSplitsAtAnyCut", apart := false }
def FnTallyIsZeroSplitsAtAnyCutSaid : Prop := fnTallyIsZeroSplitsAtAnyCutRow.holds Try.pinned (OpenSpec.ofChange fnTallyIsZeroSplitsAtAnyCutSpec)

/-- ITS FALSE NEIGHBOUR: 'it returns false'. Refute it at one input. -/
def fnTallyIsZeroSplitsAtAnyCutWrong : ChangeSpec := { name := "fnTallyIsZeroSplitsAtAnyCut", fn := fun _ => fun
  | [d1, d2, d3] => { results := [.lit (.bool false)], args := [d1, d2, d3] }
  | _ => none }
def FnTallyIsZeroSplitsAtAnyCutWrongFalsely : Prop := fnTallyIsZeroSplitsAtAnyCutRow.holds Try.pinned (OpenSpec.ofChange fnTallyIsZeroSplitsAtAnyCutWrong)

end Rows
end Go.Proofs.Qxb6628239a

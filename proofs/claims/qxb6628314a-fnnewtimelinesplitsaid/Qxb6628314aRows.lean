/-
  No cell of these rows narrows 'for every input' (looked for: loops, veiled, ifaces, maps, wideKeys, modest, calm, conditions, laid).
  DERIVED. THE GIVEN ROWS OF THIS SEAT. 2 by the template 'for every input the law returns true; each argument reads behind the call as it read before'; 0 by the template 'total and deterministic' (their statements: Qxb6628314aTotals.lean).
  GIVEN WITH THE SEED: the statements are not yours to turn. If you find one false, say at which input.
  Laid BY PROGRAM, IN A SANDBOX (cutbox-rows.mjs): the forced cells as the released guide's own fill.sh prints them over the translation b40a3c91ec0681ce… (all of the seat's roots in one cut). By AI agents, Wed Nov 11 2026. No macro, syntax, notation, axiom, sorry.
-/
import Derived.Test.Qxb6628314aChecked
import GoSem.Claim
import GoSem.ClaimJoined
import GoSem.ClaimMapViews
import Derived.JoinedTies
import Derived.KernelRfl
namespace Go.Proofs.Qxb6628314a
/- THE CELL 'sum', in the pinned program and in every row, IS THE sha256 OF THE DUMP (.gsa) THAT Qxb6628314aProg.lean LOADS. Nothing in Lean hashes anything: it is a label: what it is worth is what the hold of that sum in a sandbox is worth. -/
noncomputable def Try.pinned : Pinned := { name := "qxb6628314a", sum := "b40a3c91ec0681ced4682598b76a19eba494177ef68075b3c2011fe9e4cedee7", checked := Try.checked }
namespace Rows
def none {H : Type} : Left H := { results := [], args := [] }

/-- 'zzlaws_pkg_appeal_b1.FnNewTimelineWhole': WHATEVER THE INPUT: true; the input reads as it did. -/
def fnNewTimelineWholeSpec : ChangeSpec := { name := "fnNewTimelineWhole", fn := fun _ => fun
  | [d1, d2] => { results := [.lit (.bool true)], args := [d1, d2] }
  | _ => none }
def fnNewTimelineWholeRow : OpenClaim := { program := "qxb6628314a", sum := "b40a3c91ec0681ced4682598b76a19eba494177ef68075b3c2011fe9e4cedee7", func := "example.com/impartial-appeals/impartial-appeals/zzlaws_pkg_appeal_b1.FnNewTimelineWhole", spec := "fnNewTimelineWhole", apart := false }
def FnNewTimelineWholeSaid : Prop := fnNewTimelineWholeRow.holds Try.pinned (OpenSpec.ofChange fnNewTimelineWholeSpec)

/-- ITS FALSE NEIGHBOUR: 'it returns false'. Refute it at one input. -/
def fnNewTimelineWholeWrong : ChangeSpec := { name := "fnNewTimelineWhole", fn := fun _ => fun
  | [d1, d2] => { results := [.lit (.bool false)], args := [d1, d2] }
  | _ => none }
def FnNewTimelineWholeWrongFalsely : Prop := fnNewTimelineWholeRow.holds Try.pinned (OpenSpec.ofChange fnNewTimelineWholeWrong)

/-- 'zzlaws_pkg_appeal_b1.FnNewTimelineSplit': WHATEVER THE INPUT: true; the input reads as it did. -/
def fnNewTimelineSplitSpec : ChangeSpec := { name := "fnNewTimelineSplit", fn := fun _ => fun
  | [d1, d2, d3] => { results := [.lit (.bool true)], args := [d1, d2, d3] }
  | _ => none }
def fnNewTimelineSplitRow : OpenClaim := { program := "qxb6628314a", sum := "b40a3c91ec0681ced4682598b76a19eba494177ef68075b3c2011fe9e4cedee7", func := "example.com/impartial-appeals/impartial-appeals/zzlaws_pkg_appeal_b1.FnNewTimelineSplit", spec := "fnNewTimelineSplit", apart := false }
def FnNewTimelineSplitSaid : Prop := fnNewTimelineSplitRow.holds Try.pinned (OpenSpec.ofChange fnNewTimelineSplitSpec)

/-- ITS FALSE NEIGHBOUR: 'it returns false'. Refute it at one input. -/
def fnNewTimelineSplitWrong : ChangeSpec := { name := "fnNewTimelineSplit", fn := fun _ => fun
  | [d1, d2, d3] => { results := [.lit (.bool false)], args := [d1, d2, d3] }
  | _ => none }
def FnNewTimelineSplitWrongFalsely : Prop := fnNewTimelineSplitRow.holds Try.pinned (OpenSpec.ofChange fnNewTimelineSplitWrong)

end Rows
end Go.Proofs.Qxb6628314a

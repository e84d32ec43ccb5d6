/-
  No cell of these rows narrows 'for every input' (looked for: loops, veiled, ifaces, maps, wideKeys, modest, calm, conditions, laid).
  DERIVED. THE GIVEN ROWS OF THIS SEAT. 1 by the template 'for every input the law returns true; each argument reads behind the call as it read before'; 0 by the template 'total and deterministic' (their statements: Qxb6628158aTotals.lean).
  GIVEN WITH THE SEED: the statements are not yours to turn. If you find one false, say at which input.
  Laid BY PROGRAM, IN A SANDBOX (cutbox-rows.mjs): the forced cells as the released guide's own fill.sh prints them over the translation 8c43f8b1705b9d30… (all of the seat's roots in one cut). By AI agents, Wed Nov 11 2026. No macro, syntax, notation, axiom, sorry.
-/
import Derived.Test.Qxb6628158aChecked
import GoSem.Claim
import GoSem.ClaimJoined
import GoSem.ClaimMapViews
import Derived.JoinedTies
import Derived.KernelRfl
namespace Go.Proofs.Qxb6628158a
/- THE CELL 'sum', in the pinned program and in every row, IS THE sha256 OF THE DUMP (.gsa) THAT Qxb6628158aProg.lean LOADS. Nothing in Lean hashes anything: it is a label: what it is worth is what the hold of that sum in a sandbox is worth. -/
noncomputable def Try.pinned : Pinned := { name := "qxb6628158a", sum := "8c43f8b1705b9d3040e45001844d3141786bc92793c912fbf0525df75531cf9a", checked := Try.checked }
namespace Rows
def none {H : Type} : Left H := { results := [], args := [] }

/-- 'zzlaws_pkg_cluster_b1.FnSelectorReadAgainIsKept': WHATEVER THE INPUT: true; the input reads as it did. -/
def fnSelectorReadAgainIsKeptSpec : ChangeSpec := { name := "fnSelectorReadAgainIsKept", fn := fun _ => fun
  | [d1, d2, d3, d4, d5, d6, d7, d8, d9, d10, d11] => { results := [.lit (.bool true)], args := [d1, d2, d3, d4, d5, d6, d7, d8, d9, d10, d11] }
  | _ => none }
def fnSelectorReadAgainIsKeptRow : OpenClaim := { program := "qxb6628158a", sum := "8c43f8b1705b9d3040e45001844d3141786bc92793c912fbf0525df75531cf9a", func := "example.com/minorstep/minorstep/zzlaws_pkg_cluster_b1.FnSelectorReadAgainIsKept", spec := "fnSelectorReadAgainIsKept", unfollowed := true, recurses := true, apart := false }
def FnSelectorReadAgainIsKeptSaid : Prop := fnSelectorReadAgainIsKeptRow.holds Try.pinned (OpenSpec.ofChange fnSelectorReadAgainIsKeptSpec)

/-- ITS FALSE NEIGHBOUR: 'it returns false'. Refute it at one input. -/
def fnSelectorReadAgainIsKeptWrong : ChangeSpec := { name := "fnSelectorReadAgainIsKept", fn := fun _ => fun
  | [d1, d2, d3, d4, d5, d6, d7, d8, d9, d10, d11] => { results := [.lit (.bool false)], args := [d1, d2, d3, d4, d5, d6, d7, d8, d9, d10, d11] }
  | _ => none }
def FnSelectorReadAgainIsKeptWrongFalsely : Prop := fnSelectorReadAgainIsKeptRow.holds Try.pinned (OpenSpec.ofChange fnSelectorReadAgainIsKeptWrong)

end Rows
end Go.Proofs.Qxb6628158a

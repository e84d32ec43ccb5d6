/-
  DERIVED. GIVEN WITH THE SEED: THE CARDS: each row of Qxb6627884aDoorRows.lean that lists a variable, with what it lists TIED to the program's text (the seventh form; the later family's looks); each row that meets fmt, with fmt's text TOLD by the authors' own Lean function (tested against real Go, not proved from fmt's source: count such statements apart). THE CARD IS WHAT COUNTS. Prove the row's statement (the work); the ties are given (Qxb6627884aDoorTie.lean); close each card by the builder's one call (the guide's Derived/Test/ToyasCard.lean, 'card_holds'). Laid BY PROGRAM, IN A SANDBOX (cutbox-door.mjs). By AI agents, Wed Nov 11 2026. No macro, syntax, notation, axiom, sorry.
-/
import Derived.Test.Qxb6627884aDoorRows
import GoSem.ClaimSeven
namespace Go.Proofs.Qxb6627884aDoor
namespace Rows

/-- THE TIED CARD OF 'zzlaws_internal_bench_b1.FnReadWritesSelectOfKeys'. -/
def fnReadWritesSelectOfKeysCard : Claim7 := { stood := { row := fnReadWritesSelectOfKeysRow, standIns := [], harness := (true, "0d35a8972513c78ee123685331a3bc292ac3a869fe663204d429b9f80bb9597c"), looks := false }, kinds := [], alts := [], laidByText := true, laidKinds := [.data, .data, .data], laidTests := true, laidLooks := .later }
def FnReadWritesSelectOfKeysCardSaid : Prop := Claim7.holds Tryd.pinned (.plain (OpenSpec.ofChange fnReadWritesSelectOfKeysSpec)) fnReadWritesSelectOfKeysCard

/-- THE TIED CARD OF 'zzlaws_internal_bench_b1.FnReadParsesBackAndDoublingAddsNoRows'. -/
def fnReadParsesBackAndDoublingAddsNoRowsCard : Claim7 := { stood := { row := fnReadParsesBackAndDoublingAddsNoRowsRow, standIns := [], harness := (true, "0d35a8972513c78ee123685331a3bc292ac3a869fe663204d429b9f80bb9597c"), looks := false }, kinds := [], alts := [], laidByText := true, laidKinds := [.data, .data, .data], laidTests := true, laidLooks := .later }
def FnReadParsesBackAndDoublingAddsNoRowsCardSaid : Prop := Claim7.holds Tryd.pinned (.plain (OpenSpec.ofChange fnReadParsesBackAndDoublingAddsNoRowsSpec)) fnReadParsesBackAndDoublingAddsNoRowsCard
end Rows
end Go.Proofs.Qxb6627884aDoor

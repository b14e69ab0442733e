/-
  DERIVED. GIVEN WITH THE SEED: THE CARDS: each row of Qxb6614198aDoorRows.lean that lists a variable, with what it lists TIED to the program's text (the seventh form; the later family's looks); each row that meets fmt, with fmt's text TOLD by the authors' own Lean function (tested against real Go, not proved from fmt's source: count such statements apart). THE CARD IS WHAT COUNTS. Prove the row's statement (the work); the ties are given (Qxb6614198aDoorTie.lean); close each card by the builder's one call (the guide's Derived/Test/ToyasCard.lean, 'card_holds'). Laid BY PROGRAM, IN A SANDBOX (cutbox-door.mjs). By AI agents, Wed Nov 11 2026. No macro, syntax, notation, axiom, sorry.
-/
import Derived.Test.Qxb6614198aDoorRows
import GoSem.ClaimSeven
namespace Go.Proofs.Qxb6614198aDoor
namespace Rows

/-- THE TIED CARD OF 'zzlaws_root_b1.FnNotReachedErrorUnwrapsToItsErr'. -/
def fnNotReachedErrorUnwrapsToItsErrCard : Claim7 := { stood := { row := fnNotReachedErrorUnwrapsToItsErrRow, standIns := [], harness := (true, "7ee8f392186803abab80e45083f7fffaf7b4a9316c55d9ecfd3a0468b78484a7"), looks := true }, kinds := [], alts := [], laidByText := true, laidKinds := [.sentinel, .sentinel, .sentinel], laidTests := true, laidLooks := .later }
def FnNotReachedErrorUnwrapsToItsErrCardSaid : Prop := Claim7.holds Tryd.pinned (.plain (OpenSpec.ofChange fnNotReachedErrorUnwrapsToItsErrSpec)) fnNotReachedErrorUnwrapsToItsErrCard
end Rows
end Go.Proofs.Qxb6614198aDoor

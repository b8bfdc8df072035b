/-
  DERIVED. GIVEN WITH THE SEED: THE CARDS: each row of YtkbegfihdpiacaaGreatDoorRows.lean that lists a variable, with what it lists TIED to the program's text (the seventh form; the later family's looks); each row that meets fmt, with fmt's text TOLD by the authors' own Lean function (tested against real Go, not proved from fmt's source: count such statements apart). THE CARD IS WHAT COUNTS. Prove the row's statement (the work); the ties are given (YtkbegfihdpiacaaGreatDoorTie.lean); close each card by the builder's one call (the guide's Derived/Test/ToyasCard.lean, 'card_holds'). Laid BY PROGRAM, IN A SANDBOX (cutbox-door.mjs). By AI agents, Wed Nov 11 2026. No macro, syntax, notation, axiom, sorry.
-/
import Derived.Test.YtkbegfihdpiacaaGreatDoorRows
import GoSem.ClaimSeven
namespace Go.Proofs.YtkbegfihdpiacaaGreatDoor
namespace Rows

/-- THE TIED CARD OF 'laws.FnSignAgain'. -/
def fnSignAgainCard : Claim7 := { stood := { row := fnSignAgainRow, standIns := [], harness := (true, "6b0dfbd87970962b98e9408edf0d7123d67dee25a3c99a580a1d9bfe25387676"), looks := true }, kinds := [], alts := [], laidByText := true, laidKinds := [.data, .listed, .sentinel, .sentinel, .sentinel, .sentinel, .pinned], laidTests := true, laidLooks := .later }
def FnSignAgainCardSaid : Prop := Claim7.holds Tryz.pinned (.plain (OpenSpec.ofChange fnSignAgainSpec)) fnSignAgainCard

/-- THE SECOND FORM's CARD OF 'laws.FnSignAgain'. -/
def fnSignAgainUptoCard : Claim7 := { stood := { row := fnSignAgainUptoRow, standIns := [], harness := (true, "6b0dfbd87970962b98e9408edf0d7123d67dee25a3c99a580a1d9bfe25387676"), looks := true }, kinds := [], alts := [], laidByText := true, laidKinds := [.data, .listed, .sentinel, .sentinel, .sentinel, .sentinel, .pinned], laidTests := true, laidLooks := .later }
def FnSignAgainUptoCardSaid : Prop := Claim7.holds Tryz.pinned (.plain (OpenSpec.upto fnSignAgainSpec)) fnSignAgainUptoCard
end Rows
end Go.Proofs.YtkbegfihdpiacaaGreatDoor

/-
  DERIVED. GIVEN WITH THE SEED: THE CARDS: each row of YtkbegfihdpiacaaDoorRows.lean that lists a variable, with what it lists TIED to the program's text (the seventh form; the later family's looks); each row that meets fmt, with fmt's text TOLD by the authors' own Lean function (tested against real Go, not proved from fmt's source: count such statements apart). THE CARD IS WHAT COUNTS. Prove the row's statement (the work); the ties are given (YtkbegfihdpiacaaDoorTie.lean); close each card by the builder's one call (the guide's Derived/Test/ToyasCard.lean, 'card_holds'). Laid BY PROGRAM, IN A SANDBOX (cutbox-door.mjs). By AI agents, Wed Nov 11 2026. No macro, syntax, notation, axiom, sorry.
-/
import Derived.Test.YtkbegfihdpiacaaDoorRows
import GoSem.ClaimSeven
namespace Go.Proofs.YtkbegfihdpiacaaDoor
namespace Rows

/-- THE TIED CARD OF 'laws.FnMoreKeys'. -/
def fnMoreKeysCard : Claim7 := { stood := { row := fnMoreKeysRow, standIns := [], harness := (true, "c66d015329552041d251c45491c86520836d9611402dc5f8f4561b1516259514"), looks := true }, kinds := [], alts := [], laidByText := true, laidKinds := [.data, .listed, .sentinel, .sentinel, .pinned], laidTests := true, laidLooks := .later }
def FnMoreKeysCardSaid : Prop := Claim7.holds Tryd.pinned (.plain (OpenSpec.ofChange fnMoreKeysSpec)) fnMoreKeysCard

/-- THE TIED CARD OF 'laws.FnOpen'. -/
def fnOpenCard : Claim7 := { stood := { row := fnOpenRow, standIns := [], harness := (true, "c66d015329552041d251c45491c86520836d9611402dc5f8f4561b1516259514"), looks := true }, kinds := [], alts := [], laidByText := true, laidKinds := [.data, .listed, .sentinel, .sentinel, .pinned], laidTests := true, laidLooks := .later }
def FnOpenCardSaid : Prop := Claim7.holds Tryd.pinned (.plain (OpenSpec.ofChange fnOpenSpec)) fnOpenCard

/-- THE TIED CARD OF 'laws.FnOpenKind'. -/
def fnOpenKindCard : Claim7 := { stood := { row := fnOpenKindRow, standIns := [], harness := (true, "c66d015329552041d251c45491c86520836d9611402dc5f8f4561b1516259514"), looks := true }, kinds := [], alts := [], laidByText := true, laidKinds := [.data, .listed, .sentinel, .sentinel, .pinned], laidTests := true, laidLooks := .later }
def FnOpenKindCardSaid : Prop := Claim7.holds Tryd.pinned (.plain (OpenSpec.ofChange fnOpenKindSpec)) fnOpenKindCard

/-- THE TIED CARD OF 'laws.FnSignNothing'. -/
def fnSignNothingCard : Claim7 := { stood := { row := fnSignNothingRow, standIns := [], harness := (true, "c66d015329552041d251c45491c86520836d9611402dc5f8f4561b1516259514"), looks := true }, kinds := [], alts := [], laidByText := true, laidKinds := [.data, .listed, .sentinel, .sentinel, .sentinel, .sentinel, .pinned], laidTests := true, laidLooks := .later }
def FnSignNothingCardSaid : Prop := Claim7.holds Tryd.pinned (.plain (OpenSpec.ofChange fnSignNothingSpec)) fnSignNothingCard

/-- THE SECOND FORM's CARD OF 'laws.FnMoreKeys'. -/
def fnMoreKeysUptoCard : Claim7 := { stood := { row := fnMoreKeysUptoRow, standIns := [], harness := (true, "c66d015329552041d251c45491c86520836d9611402dc5f8f4561b1516259514"), looks := true }, kinds := [], alts := [], laidByText := true, laidKinds := [.data, .listed, .sentinel, .sentinel, .pinned], laidTests := true, laidLooks := .later }
def FnMoreKeysUptoCardSaid : Prop := Claim7.holds Tryd.pinned (.plain (OpenSpec.upto fnMoreKeysSpec)) fnMoreKeysUptoCard

/-- THE SECOND FORM's CARD OF 'laws.FnOpen'. -/
def fnOpenUptoCard : Claim7 := { stood := { row := fnOpenUptoRow, standIns := [], harness := (true, "c66d015329552041d251c45491c86520836d9611402dc5f8f4561b1516259514"), looks := true }, kinds := [], alts := [], laidByText := true, laidKinds := [.data, .listed, .sentinel, .sentinel, .pinned], laidTests := true, laidLooks := .later }
def FnOpenUptoCardSaid : Prop := Claim7.holds Tryd.pinned (.plain (OpenSpec.upto fnOpenSpec)) fnOpenUptoCard

/-- THE SECOND FORM's CARD OF 'laws.FnOpenKind'. -/
def fnOpenKindUptoCard : Claim7 := { stood := { row := fnOpenKindUptoRow, standIns := [], harness := (true, "c66d015329552041d251c45491c86520836d9611402dc5f8f4561b1516259514"), looks := true }, kinds := [], alts := [], laidByText := true, laidKinds := [.data, .listed, .sentinel, .sentinel, .pinned], laidTests := true, laidLooks := .later }
def FnOpenKindUptoCardSaid : Prop := Claim7.holds Tryd.pinned (.plain (OpenSpec.upto fnOpenKindSpec)) fnOpenKindUptoCard

/-- THE SECOND FORM's CARD OF 'laws.FnSignNothing'. -/
def fnSignNothingUptoCard : Claim7 := { stood := { row := fnSignNothingUptoRow, standIns := [], harness := (true, "c66d015329552041d251c45491c86520836d9611402dc5f8f4561b1516259514"), looks := true }, kinds := [], alts := [], laidByText := true, laidKinds := [.data, .listed, .sentinel, .sentinel, .sentinel, .sentinel, .pinned], laidTests := true, laidLooks := .later }
def FnSignNothingUptoCardSaid : Prop := Claim7.holds Tryd.pinned (.plain (OpenSpec.upto fnSignNothingSpec)) fnSignNothingUptoCard
end Rows
end Go.Proofs.YtkbegfihdpiacaaDoor

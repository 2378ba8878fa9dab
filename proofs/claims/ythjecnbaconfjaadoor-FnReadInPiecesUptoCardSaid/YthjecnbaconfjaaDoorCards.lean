/-
  DERIVED. GIVEN WITH THE SEED: THE CARDS: each row of YthjecnbaconfjaaDoorRows.lean that lists a variable, with what it lists TIED to the program's text (the seventh form; the later family's looks); each row that meets fmt, with fmt's text TOLD by the authors' own Lean function (tested against real Go, not proved from fmt's source: count such statements apart). THE CARD IS WHAT COUNTS. Prove the row's statement (the work); the ties are given (YthjecnbaconfjaaDoorTie.lean); close each card by the builder's one call (the guide's Derived/Test/ToyasCard.lean, 'card_holds'). Laid BY PROGRAM, IN A SANDBOX (cutbox-door.mjs). By AI agents, Wed Nov 11 2026. No macro, syntax, notation, axiom, sorry.
-/
import Derived.Test.YthjecnbaconfjaaDoorRows
import GoSem.ClaimSeven
namespace Go.Proofs.YthjecnbaconfjaaDoor
namespace Rows

/-- THE TIED CARD OF 'laws.FnReadAtIsSeekAndRead'. -/
def fnReadAtIsSeekAndReadCard : Claim7 := { stood := { row := fnReadAtIsSeekAndReadRow, standIns := [], harness := (true, "a946eb41dc48393d3299021e0f0a62ae43dcb84fdf217e4738a900b62cc3267f"), looks := true }, kinds := [], alts := [], laidByText := true, laidKinds := [.sentinel], laidTests := true, laidLooks := .later }
def FnReadAtIsSeekAndReadCardSaid : Prop := Claim7.holds Tryd.pinned (.plain (OpenSpec.ofChange fnReadAtIsSeekAndReadSpec)) fnReadAtIsSeekAndReadCard

/-- THE TIED CARD OF 'laws.FnReadInPieces'. -/
def fnReadInPiecesCard : Claim7 := { stood := { row := fnReadInPiecesRow, standIns := [], harness := (true, "a946eb41dc48393d3299021e0f0a62ae43dcb84fdf217e4738a900b62cc3267f"), looks := true }, kinds := [], alts := [], laidByText := true, laidKinds := [.sentinel], laidTests := true, laidLooks := .later }
def FnReadInPiecesCardSaid : Prop := Claim7.holds Tryd.pinned (.plain (OpenSpec.ofChange fnReadInPiecesSpec)) fnReadInPiecesCard

/-- THE TIED CARD OF 'laws.FnReadOneByOne'. -/
def fnReadOneByOneCard : Claim7 := { stood := { row := fnReadOneByOneRow, standIns := [], harness := (true, "a946eb41dc48393d3299021e0f0a62ae43dcb84fdf217e4738a900b62cc3267f"), looks := true }, kinds := [], alts := [], laidByText := true, laidKinds := [.sentinel], laidTests := true, laidLooks := .later }
def FnReadOneByOneCardSaid : Prop := Claim7.holds Tryd.pinned (.plain (OpenSpec.ofChange fnReadOneByOneSpec)) fnReadOneByOneCard

/-- THE SECOND FORM's CARD OF 'laws.FnReadAtIsSeekAndRead'. -/
def fnReadAtIsSeekAndReadUptoCard : Claim7 := { stood := { row := fnReadAtIsSeekAndReadUptoRow, standIns := [], harness := (true, "a946eb41dc48393d3299021e0f0a62ae43dcb84fdf217e4738a900b62cc3267f"), looks := true }, kinds := [], alts := [], laidByText := true, laidKinds := [.sentinel], laidTests := true, laidLooks := .later }
def FnReadAtIsSeekAndReadUptoCardSaid : Prop := Claim7.holds Tryd.pinned (.plain (OpenSpec.upto fnReadAtIsSeekAndReadSpec)) fnReadAtIsSeekAndReadUptoCard

/-- THE SECOND FORM's CARD OF 'laws.FnReadInPieces'. -/
def fnReadInPiecesUptoCard : Claim7 := { stood := { row := fnReadInPiecesUptoRow, standIns := [], harness := (true, "a946eb41dc48393d3299021e0f0a62ae43dcb84fdf217e4738a900b62cc3267f"), looks := true }, kinds := [], alts := [], laidByText := true, laidKinds := [.sentinel], laidTests := true, laidLooks := .later }
def FnReadInPiecesUptoCardSaid : Prop := Claim7.holds Tryd.pinned (.plain (OpenSpec.upto fnReadInPiecesSpec)) fnReadInPiecesUptoCard

/-- THE SECOND FORM's CARD OF 'laws.FnReadOneByOne'. -/
def fnReadOneByOneUptoCard : Claim7 := { stood := { row := fnReadOneByOneUptoRow, standIns := [], harness := (true, "a946eb41dc48393d3299021e0f0a62ae43dcb84fdf217e4738a900b62cc3267f"), looks := true }, kinds := [], alts := [], laidByText := true, laidKinds := [.sentinel], laidTests := true, laidLooks := .later }
def FnReadOneByOneUptoCardSaid : Prop := Claim7.holds Tryd.pinned (.plain (OpenSpec.upto fnReadOneByOneSpec)) fnReadOneByOneUptoCard
end Rows
end Go.Proofs.YthjecnbaconfjaaDoor

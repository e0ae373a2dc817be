/-
  DERIVED. GIVEN WITH THE SEED: THE CARDS: each row of YtdeejmkjhmpabaaGreatDoorRows.lean that lists a variable, with what it lists TIED to the program's text (the seventh form; the later family's looks); each row that meets fmt, with fmt's text TOLD by the authors' own Lean function (tested against real Go, not proved from fmt's source: count such statements apart). THE CARD IS WHAT COUNTS. Prove the row's statement (the work); the ties are given (YtdeejmkjhmpabaaGreatDoorTie.lean); close each card by the builder's one call (the guide's Derived/Test/ToyasCard.lean, 'card_holds'). Laid BY PROGRAM, IN A SANDBOX (cutbox-door.mjs). By AI agents, Wed Nov 11 2026. No macro, syntax, notation, axiom, sorry.
-/
import Derived.Test.YtdeejmkjhmpabaaGreatDoorRows
import GoSem.ClaimSeven
namespace Go.Proofs.YtdeejmkjhmpabaaGreatDoor
namespace Rows

/-- THE TIED CARD OF 'laws.FnMatrix'. -/
def fnMatrixCard : Claim7 := { stood := { row := fnMatrixRow, standIns := [], harness := (true, "4a2d097ba53e7c3496e4c7b33cb02b73a1aa3c7ec04669ec0cc479e1a5f9cf97"), looks := true }, kinds := [], alts := [], laidByText := true, laidKinds := [.data, .data, .data, .data, .data, .sentinel, .sentinel, .pinned, .pinned, .pinned, .pinned, .pinned, .pinned, .pinned, .pinned], laidTests := true, laidLooks := .later }
def FnMatrixCardSaid : Prop := Claim7.holds Tryz.pinned (.plain (OpenSpec.ofChange fnMatrixSpec)) fnMatrixCard

/-- THE TIED CARD OF 'laws.FnVector'. -/
def fnVectorCard : Claim7 := { stood := { row := fnVectorRow, standIns := [], harness := (true, "4a2d097ba53e7c3496e4c7b33cb02b73a1aa3c7ec04669ec0cc479e1a5f9cf97"), looks := true }, kinds := [], alts := [], laidByText := true, laidKinds := [.data, .data, .data, .data, .data, .sentinel, .sentinel, .pinned, .pinned, .pinned, .pinned, .pinned, .pinned, .pinned, .pinned], laidTests := true, laidLooks := .later }
def FnVectorCardSaid : Prop := Claim7.holds Tryz.pinned (.plain (OpenSpec.ofChange fnVectorSpec)) fnVectorCard

/-- THE SECOND FORM's CARD OF 'laws.FnMatrix'. -/
def fnMatrixUptoCard : Claim7 := { stood := { row := fnMatrixUptoRow, standIns := [], harness := (true, "4a2d097ba53e7c3496e4c7b33cb02b73a1aa3c7ec04669ec0cc479e1a5f9cf97"), looks := true }, kinds := [], alts := [], laidByText := true, laidKinds := [.data, .data, .data, .data, .data, .sentinel, .sentinel, .pinned, .pinned, .pinned, .pinned, .pinned, .pinned, .pinned, .pinned], laidTests := true, laidLooks := .later }
def FnMatrixUptoCardSaid : Prop := Claim7.holds Tryz.pinned (.plain (OpenSpec.upto fnMatrixSpec)) fnMatrixUptoCard

/-- THE SECOND FORM's CARD OF 'laws.FnVector'. -/
def fnVectorUptoCard : Claim7 := { stood := { row := fnVectorUptoRow, standIns := [], harness := (true, "4a2d097ba53e7c3496e4c7b33cb02b73a1aa3c7ec04669ec0cc479e1a5f9cf97"), looks := true }, kinds := [], alts := [], laidByText := true, laidKinds := [.data, .data, .data, .data, .data, .sentinel, .sentinel, .pinned, .pinned, .pinned, .pinned, .pinned, .pinned, .pinned, .pinned], laidTests := true, laidLooks := .later }
def FnVectorUptoCardSaid : Prop := Claim7.holds Tryz.pinned (.plain (OpenSpec.upto fnVectorSpec)) fnVectorUptoCard
end Rows
end Go.Proofs.YtdeejmkjhmpabaaGreatDoor

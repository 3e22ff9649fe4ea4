/-
  DERIVED. GIVEN WITH THE SEED: THE CARDS: each row of Qxb6612240aDoorRows.lean that lists a variable, with what it lists TIED to the program's text (the seventh form; the later family's looks); each row that meets fmt, with fmt's text TOLD by the authors' own Lean function (tested against real Go, not proved from fmt's source: count such statements apart). THE CARD IS WHAT COUNTS. Prove the row's statement (the work); the ties are given (Qxb6612240aDoorTie.lean); close each card by the builder's one call (the guide's Derived/Test/ToyasCard.lean, 'card_holds'). Laid BY PROGRAM, IN A SANDBOX (cutbox-door.mjs). By AI agents, Wed Nov 11 2026. No macro, syntax, notation, axiom, sorry.
-/
import Derived.Test.Qxb6612240aDoorRows
import GoSem.ClaimSeven
namespace Go.Proofs.Qxb6612240aDoor
namespace Rows

/-- THE TIED CARD OF 'zzlaws_root_b1.FnSkipRestExact'. -/
def fnSkipRestExactCard : Claim7 := { stood := { row := fnSkipRestExactRow, standIns := [], harness := (true, "3877b9b5ae345a3559bfbf195e26db18f7f753936101eab77f932ca6f491360e"), looks := true }, kinds := [], alts := [], laidByText := true, laidKinds := [.sentinel, .sentinel, .sentinel, .sentinel], laidTests := true, laidLooks := .later }
def FnSkipRestExactCardSaid : Prop := Claim7.holds Tryd.pinned (.plain (OpenSpec.ofChange fnSkipRestExactSpec)) fnSkipRestExactCard

/-- THE TIED CARD OF 'zzlaws_root_b1.FnSkipRestLinesAtAnySize'. -/
def fnSkipRestLinesAtAnySizeCard : Claim7 := { stood := { row := fnSkipRestLinesAtAnySizeRow, standIns := [], harness := (true, "3877b9b5ae345a3559bfbf195e26db18f7f753936101eab77f932ca6f491360e"), looks := true }, kinds := [], alts := [], laidByText := true, laidKinds := [.sentinel, .sentinel, .sentinel, .sentinel], laidTests := true, laidLooks := .later }
def FnSkipRestLinesAtAnySizeCardSaid : Prop := Claim7.holds Tryd.pinned (.plain (OpenSpec.ofChange fnSkipRestLinesAtAnySizeSpec)) fnSkipRestLinesAtAnySizeCard
end Rows
end Go.Proofs.Qxb6612240aDoor

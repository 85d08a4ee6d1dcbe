/-
  DERIVED. GIVEN WITH THE SEED: THE CARDS: each row of YbulkcamsDoorRows.lean that lists a variable, with what it lists TIED to the program's text (the seventh form; the later family's looks); each row that meets fmt, with fmt's text TOLD by the authors' own Lean function (tested against real Go, not proved from fmt's source: count such statements apart). THE CARD IS WHAT COUNTS. Prove the row's statement (the work); the ties are given (YbulkcamsDoorTie.lean); close each card by the builder's one call (the guide's Derived/Test/ToyasCard.lean, 'card_holds'). Laid BY PROGRAM, IN A SANDBOX (cutbox-door.mjs). By AI agents, Wed Nov 11 2026. No macro, syntax, notation, axiom, sorry.
-/
import Derived.Test.YbulkcamsDoorRows
import GoSem.ClaimSeven
namespace Go.Proofs.YbulkcamsDoor
namespace Rows

/-- THE TIED CARD OF 'gatewright.LawS3840CKeepOne'. -/
def lawS3840CKeepOneCard : Claim7 := { stood := { row := lawS3840CKeepOneRow, standIns := [], harness := (true, "a454e3a985ad08a2139d6c3c539538350d21bfa25328008b7a0d44e19230aa1d"), looks := true }, kinds := [], alts := [], laidByText := true, laidKinds := [.wider], laidTests := true, laidLooks := .later }
def LawS3840CKeepOneCardSaid : Prop := Claim7.holds Ybad.pinned (.plain (OpenSpec.ofChange lawS3840CKeepOneSpec)) lawS3840CKeepOneCard

/-- THE TIED CARD OF 'gatewright.LawS3840CKeepTwice'. -/
def lawS3840CKeepTwiceCard : Claim7 := { stood := { row := lawS3840CKeepTwiceRow, standIns := [], harness := (true, "a454e3a985ad08a2139d6c3c539538350d21bfa25328008b7a0d44e19230aa1d"), looks := true }, kinds := [], alts := [], laidByText := true, laidKinds := [.wider], laidTests := true, laidLooks := .later }
def LawS3840CKeepTwiceCardSaid : Prop := Claim7.holds Ybad.pinned (.plain (OpenSpec.ofChange lawS3840CKeepTwiceSpec)) lawS3840CKeepTwiceCard
end Rows
end Go.Proofs.YbulkcamsDoor

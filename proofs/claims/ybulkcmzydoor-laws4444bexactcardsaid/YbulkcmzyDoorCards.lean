/-
  DERIVED. GIVEN WITH THE SEED: THE CARDS: each row of YbulkcmzyDoorRows.lean that lists a variable, with what it lists TIED to the program's text (the seventh form; the later family's looks); each row that meets fmt, with fmt's text TOLD by the authors' own Lean function (tested against real Go, not proved from fmt's source: count such statements apart). THE CARD IS WHAT COUNTS. Prove the row's statement (the work); the ties are given (YbulkcmzyDoorTie.lean); close each card by the builder's one call (the guide's Derived/Test/ToyasCard.lean, 'card_holds'). Laid BY PROGRAM, IN A SANDBOX (cutbox-door.mjs). By AI agents, Wed Nov 11 2026. No macro, syntax, notation, axiom, sorry.
-/
import Derived.Test.YbulkcmzyDoorRows
import GoSem.ClaimSeven
namespace Go.Proofs.YbulkcmzyDoor
namespace Rows

/-- THE TIED CARD OF 'tsf.LawS4444BExact'. -/
def lawS4444BExactCard : Claim7 := { stood := { row := lawS4444BExactRow, standIns := [], harness := (true, "249f0d11ec510d9e70e0818ae3e474068be28c7e158274ca1861cb0ef380243e"), looks := false }, kinds := [], alts := [], laidByText := true, laidKinds := [.data, .data, .data], laidTests := true, laidLooks := .later }
def LawS4444BExactCardSaid : Prop := Claim7.holds Ybad.pinned (.plain (OpenSpec.ofChange lawS4444BExactSpec)) lawS4444BExactCard

/-- THE TIED CARD OF 'tsf.LawS4444BRoundTrip'. -/
def lawS4444BRoundTripCard : Claim7 := { stood := { row := lawS4444BRoundTripRow, standIns := [], harness := (true, "249f0d11ec510d9e70e0818ae3e474068be28c7e158274ca1861cb0ef380243e"), looks := false }, kinds := [], alts := [], laidByText := true, laidKinds := [.data, .data, .data], laidTests := true, laidLooks := .later }
def LawS4444BRoundTripCardSaid : Prop := Claim7.holds Ybad.pinned (.plain (OpenSpec.ofChange lawS4444BRoundTripSpec)) lawS4444BRoundTripCard

/-- THE TIED CARD OF 'grammar.LawS4444CExact'. -/
def lawS4444CExactCard : Claim7 := { stood := { row := lawS4444CExactRow, standIns := [], harness := (true, "249f0d11ec510d9e70e0818ae3e474068be28c7e158274ca1861cb0ef380243e"), looks := false }, kinds := [], alts := [], laidByText := true, laidKinds := [.data, .pinned, .pinned], laidTests := true, laidLooks := .later }
def LawS4444CExactCardSaid : Prop := Claim7.holds Ybad.pinned (.plain (OpenSpec.ofChange lawS4444CExactSpec)) lawS4444CExactCard

/-- THE TIED CARD OF 'grammar.LawS4444CRawID'. -/
def lawS4444CRawIDCard : Claim7 := { stood := { row := lawS4444CRawIDRow, standIns := [], harness := (true, "249f0d11ec510d9e70e0818ae3e474068be28c7e158274ca1861cb0ef380243e"), looks := false }, kinds := [], alts := [], laidByText := true, laidKinds := [.data, .pinned, .pinned], laidTests := true, laidLooks := .later }
def LawS4444CRawIDCardSaid : Prop := Claim7.holds Ybad.pinned (.plain (OpenSpec.ofChange lawS4444CRawIDSpec)) lawS4444CRawIDCard
end Rows
end Go.Proofs.YbulkcmzyDoor

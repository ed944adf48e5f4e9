/-
  DERIVED. GIVEN WITH THE SEED: THE CARDS: each row of YbulkcnbaFmtRows.lean that lists a variable, with what it lists TIED to the program's text (the seventh form; the later family's looks); each row that meets fmt, with fmt's text TOLD by the authors' own Lean function (tested against real Go, not proved from fmt's source: count such statements apart). THE CARD IS WHAT COUNTS. Prove the row's statement (the work); the ties are given (YbulkcnbaFmtTie.lean); close each card by the builder's one call (the guide's Derived/Test/ToyasCard.lean, 'card_holds'). Laid BY PROGRAM, IN A SANDBOX (cutbox-door.mjs). By AI agents, Wed Nov 11 2026. No macro, syntax, notation, axiom, sorry.
-/
import Derived.Test.YbulkcnbaFmtRows
import GoSem.ClaimSeven
namespace Go.Proofs.YbulkcnbaFmt
namespace Rows

/-- THE TOLD CARD OF 'interp.LawS4446CSingular'. -/
def lawS4446CSingularCard : Claim7 := { stood := { row := lawS4446CSingularRow, standIns := [], harness := (true, "9ec23ae62e5a9cc9ba8b20ce404a2311ad66fef70d7150c68993b1570e8378e2"), looks := false }, told := true, goes := false }
def LawS4446CSingularToldSaid : Prop := Claim7.holds Ybaf.pinned (.plain (OpenSpec.ofChange lawS4446CSingularSpec)) lawS4446CSingularCard
/-- ITS FALSE NEIGHBOUR. Refute it at one input. -/
def LawS4446CSingularToldWrongFalsely : Prop := Claim7.holds Ybaf.pinned (.plain (OpenSpec.ofChange lawS4446CSingularWrong)) lawS4446CSingularCard

/-- THE TOLD CARD OF 'interp.LawS4446CTotal'. -/
def lawS4446CTotalCard : Claim7 := { stood := { row := lawS4446CTotalRow, standIns := [], harness := (true, "9ec23ae62e5a9cc9ba8b20ce404a2311ad66fef70d7150c68993b1570e8378e2"), looks := false }, told := true, goes := false }
def LawS4446CTotalToldSaid : Prop := Claim7.holds Ybaf.pinned (.plain (OpenSpec.ofChange lawS4446CTotalSpec)) lawS4446CTotalCard
/-- ITS FALSE NEIGHBOUR. Refute it at one input. -/
def LawS4446CTotalToldWrongFalsely : Prop := Claim7.holds Ybaf.pinned (.plain (OpenSpec.ofChange lawS4446CTotalWrong)) lawS4446CTotalCard
end Rows
end Go.Proofs.YbulkcnbaFmt

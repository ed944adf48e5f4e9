/-
  No cell of these rows narrows 'for every input' (looked for: loops, veiled, ifaces, maps, wideKeys, modest, calm, conditions, laid).
  DERIVED. THE GIVEN ROWS OF THIS SEAT. 2 by the template 'for every input the law returns true; each argument reads behind the call as it read before'; 0 by the template 'total and deterministic' (their statements: YbulkcnbaFmtTotals.lean).
  GIVEN WITH THE SEED: the statements are not yours to turn. If you find one false, say at which input.
  Laid BY PROGRAM, IN A SANDBOX (cutbox-rows.mjs): the forced cells as the released guide's own fill.sh prints them over the translation 97c4ba501a964583… (all of the seat's roots in one cut). By AI agents, Wed Nov 11 2026. No macro, syntax, notation, axiom, sorry.
-/
import Derived.Test.YbulkcnbaFmtChecked
import GoSem.Claim
import GoSem.ClaimJoined
import GoSem.ClaimMapViews
import Derived.JoinedTies
import Derived.KernelRfl
namespace Go.Proofs.YbulkcnbaFmt
/- THE CELL 'sum', in the pinned program and in every row, IS THE sha256 OF THE DUMP (.gsa) THAT YbulkcnbaFmtProg.lean LOADS. Nothing in Lean hashes anything: it is a label: what it is worth is what the hold of that sum in a sandbox is worth. -/
noncomputable def Ybaf.pinned : Pinned := { name := "ybulkcnbafmt", sum := "97c4ba501a9645839e90f57809cc91445e0da92a280169fe6c5e14f6e1ba92c0", checked := Ybaf.checked }
namespace Rows
def none {H : Type} : Left H := { results := [], args := [] }

/-- 'interp.LawS4446CSingular': WHATEVER THE INPUT: true; the input reads as it did. -/
def lawS4446CSingularSpec : ChangeSpec := { name := "lawS4446CSingular", fn := fun _ => fun
  | [d] => { results := [.lit (.bool true)], args := [d] }
  | _ => none }
def lawS4446CSingularRow : OpenClaim := { program := "ybulkcnbafmt", sum := "97c4ba501a9645839e90f57809cc91445e0da92a280169fe6c5e14f6e1ba92c0", func := "example.com/unphi/unphi/interp.LawS4446CSingular", spec := "lawS4446CSingular", stops := ["fmt.Sprintf"], inPlace := ["fmt.Sprintf"], apart := false }
/-- NO THEOREM (fmt's text is open here; it may be false): for the released tool's asking of the row's closed facts alone. THE STATEMENT IS 'LawS4446CSingularToldSaid' (YbulkcnbaFmtCards.lean). -/
def LawS4446CSingularFormAsk : Prop := lawS4446CSingularRow.holds Ybaf.pinned (OpenSpec.ofChange lawS4446CSingularSpec)

/-- ITS FALSE NEIGHBOUR: 'it returns false'. Refute it at one input. -/
def lawS4446CSingularWrong : ChangeSpec := { name := "lawS4446CSingular", fn := fun _ => fun
  | [d] => { results := [.lit (.bool false)], args := [d] }
  | _ => none }
def LawS4446CSingularWrongFormAsk : Prop := lawS4446CSingularRow.holds Ybaf.pinned (OpenSpec.ofChange lawS4446CSingularWrong)

/-- 'interp.LawS4446CTotal': WHATEVER THE INPUT: true; the input reads as it did. -/
def lawS4446CTotalSpec : ChangeSpec := { name := "lawS4446CTotal", fn := fun _ => fun
  | [d1, d2] => { results := [.lit (.bool true)], args := [d1, d2] }
  | _ => none }
def lawS4446CTotalRow : OpenClaim := { program := "ybulkcnbafmt", sum := "97c4ba501a9645839e90f57809cc91445e0da92a280169fe6c5e14f6e1ba92c0", func := "example.com/unphi/unphi/interp.LawS4446CTotal", spec := "lawS4446CTotal", stops := ["fmt.Sprintf"], inPlace := ["fmt.Sprintf"], apart := false }
/-- NO THEOREM (fmt's text is open here; it may be false): for the released tool's asking of the row's closed facts alone. THE STATEMENT IS 'LawS4446CTotalToldSaid' (YbulkcnbaFmtCards.lean). -/
def LawS4446CTotalFormAsk : Prop := lawS4446CTotalRow.holds Ybaf.pinned (OpenSpec.ofChange lawS4446CTotalSpec)

/-- ITS FALSE NEIGHBOUR: 'it returns false'. Refute it at one input. -/
def lawS4446CTotalWrong : ChangeSpec := { name := "lawS4446CTotal", fn := fun _ => fun
  | [d1, d2] => { results := [.lit (.bool false)], args := [d1, d2] }
  | _ => none }
def LawS4446CTotalWrongFormAsk : Prop := lawS4446CTotalRow.holds Ybaf.pinned (OpenSpec.ofChange lawS4446CTotalWrong)

end Rows
end Go.Proofs.YbulkcnbaFmt

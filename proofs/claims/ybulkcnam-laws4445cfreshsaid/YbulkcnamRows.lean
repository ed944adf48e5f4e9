/-
  No cell of these rows narrows 'for every input' (looked for: loops, veiled, ifaces, maps, wideKeys, modest, calm, conditions, laid).
  DERIVED. THE GIVEN ROWS OF THIS SEAT. 2 by the template 'for every input the law returns true; each argument reads behind the call as it read before'; 0 by the template 'total and deterministic' (their statements: YbulkcnamTotals.lean).
  GIVEN WITH THE SEED: the statements are not yours to turn. If you find one false, say at which input.
  Laid BY PROGRAM, IN A SANDBOX (cutbox-rows.mjs): the forced cells as the released guide's own fill.sh prints them over the translation e09d6cd6862fdab7… (all of the seat's roots in one cut). By AI agents, Wed Nov 11 2026. No macro, syntax, notation, axiom, sorry.
-/
import Derived.Test.YbulkcnamChecked
import GoSem.Claim
import GoSem.ClaimJoined
import GoSem.ClaimMapViews
import Derived.JoinedTies
import Derived.KernelRfl
namespace Go.Proofs.Ybulkcnam
/- THE CELL 'sum', in the pinned program and in every row, IS THE sha256 OF THE DUMP (.gsa) THAT YbulkcnamProg.lean LOADS. Nothing in Lean hashes anything: it is a label: what it is worth is what the hold of that sum in a sandbox is worth. -/
noncomputable def Yba.pinned : Pinned := { name := "ybulkcnam", sum := "e09d6cd6862fdab7c6007ceb07d8e8179959c0fe6b41c14afc38341df274c7cd", checked := Yba.checked }
namespace Rows
def none {H : Type} : Left H := { results := [], args := [] }

/-- 'leadline.LawS4445CFresh': WHATEVER THE INPUT: true; the input reads as it did. -/
def lawS4445CFreshSpec : ChangeSpec := { name := "lawS4445CFresh", fn := fun _ => fun
  | [d1, d2, d3] => { results := [.lit (.bool true)], args := [d1, d2, d3] }
  | _ => none }
def lawS4445CFreshRow : OpenClaim := { program := "ybulkcnam", sum := "e09d6cd6862fdab7c6007ceb07d8e8179959c0fe6b41c14afc38341df274c7cd", func := "example.com/leadline/leadline.LawS4445CFresh", spec := "lawS4445CFresh", inPlace := ["math.Float64bits", "math.Float64frombits"], apart := false }
def LawS4445CFreshSaid : Prop := lawS4445CFreshRow.holds Yba.pinned (OpenSpec.ofChange lawS4445CFreshSpec)

/-- ITS FALSE NEIGHBOUR: 'it returns false'. Refute it at one input. -/
def lawS4445CFreshWrong : ChangeSpec := { name := "lawS4445CFresh", fn := fun _ => fun
  | [d1, d2, d3] => { results := [.lit (.bool false)], args := [d1, d2, d3] }
  | _ => none }
def LawS4445CFreshWrongFalsely : Prop := lawS4445CFreshRow.holds Yba.pinned (OpenSpec.ofChange lawS4445CFreshWrong)

/-- 'leadline.LawS4445CCarry': WHATEVER THE INPUT: true; the input reads as it did. -/
def lawS4445CCarrySpec : ChangeSpec := { name := "lawS4445CCarry", fn := fun _ => fun
  | [d1, d2, d3, d4] => { results := [.lit (.bool true)], args := [d1, d2, d3, d4] }
  | _ => none }
def lawS4445CCarryRow : OpenClaim := { program := "ybulkcnam", sum := "e09d6cd6862fdab7c6007ceb07d8e8179959c0fe6b41c14afc38341df274c7cd", func := "example.com/leadline/leadline.LawS4445CCarry", spec := "lawS4445CCarry", apart := false }
def LawS4445CCarrySaid : Prop := lawS4445CCarryRow.holds Yba.pinned (OpenSpec.ofChange lawS4445CCarrySpec)

/-- ITS FALSE NEIGHBOUR: 'it returns false'. Refute it at one input. -/
def lawS4445CCarryWrong : ChangeSpec := { name := "lawS4445CCarry", fn := fun _ => fun
  | [d1, d2, d3, d4] => { results := [.lit (.bool false)], args := [d1, d2, d3, d4] }
  | _ => none }
def LawS4445CCarryWrongFalsely : Prop := lawS4445CCarryRow.holds Yba.pinned (OpenSpec.ofChange lawS4445CCarryWrong)

end Rows
end Go.Proofs.Ybulkcnam

/-
  No cell of these rows narrows 'for every input' (looked for: loops, veiled, ifaces, maps, wideKeys, modest, calm, conditions, laid).
  DERIVED. THE GIVEN ROWS OF THIS SEAT. 4 by the template 'for every input the law returns true; each argument reads behind the call as it read before'; 0 by the template 'total and deterministic' (their statements: YbulkcnbaTotals.lean).
  GIVEN WITH THE SEED: the statements are not yours to turn. If you find one false, say at which input.
  Laid BY PROGRAM, IN A SANDBOX (cutbox-rows.mjs): the forced cells as the released guide's own fill.sh prints them over the translation d12a1d536f9d9aec… (all of the seat's roots in one cut). By AI agents, Wed Nov 11 2026. No macro, syntax, notation, axiom, sorry.
-/
import Derived.Test.YbulkcnbaChecked
import GoSem.Claim
import GoSem.ClaimJoined
import GoSem.ClaimMapViews
import Derived.JoinedTies
import Derived.KernelRfl
namespace Go.Proofs.Ybulkcnba
/- THE CELL 'sum', in the pinned program and in every row, IS THE sha256 OF THE DUMP (.gsa) THAT YbulkcnbaProg.lean LOADS. Nothing in Lean hashes anything: it is a label: what it is worth is what the hold of that sum in a sandbox is worth. -/
noncomputable def Yba.pinned : Pinned := { name := "ybulkcnba", sum := "d12a1d536f9d9aec928c022289a970494a46b2632fc80fde4cb0ef3fd7d34995", checked := Yba.checked }
namespace Rows
def none {H : Type} : Left H := { results := [], args := [] }

/-- 'unphi.LawS4446AClass': WHATEVER THE INPUT: true; the input reads as it did. -/
def lawS4446AClassSpec : ChangeSpec := { name := "lawS4446AClass", fn := fun _ => fun
  | [d1, d2, d3, d4, d5, d6] => { results := [.lit (.bool true)], args := [d1, d2, d3, d4, d5, d6] }
  | _ => none }
def lawS4446AClassRow : OpenClaim := { program := "ybulkcnba", sum := "d12a1d536f9d9aec928c022289a970494a46b2632fc80fde4cb0ef3fd7d34995", func := "example.com/unphi/unphi.LawS4446AClass", spec := "lawS4446AClass", apart := false }
def LawS4446AClassSaid : Prop := lawS4446AClassRow.holds Yba.pinned (OpenSpec.ofChange lawS4446AClassSpec)

/-- ITS FALSE NEIGHBOUR: 'it returns false'. Refute it at one input. -/
def lawS4446AClassWrong : ChangeSpec := { name := "lawS4446AClass", fn := fun _ => fun
  | [d1, d2, d3, d4, d5, d6] => { results := [.lit (.bool false)], args := [d1, d2, d3, d4, d5, d6] }
  | _ => none }
def LawS4446AClassWrongFalsely : Prop := lawS4446AClassRow.holds Yba.pinned (OpenSpec.ofChange lawS4446AClassWrong)

/-- 'unphi.LawS4446AWalk': WHATEVER THE INPUT: true; the input reads as it did. -/
def lawS4446AWalkSpec : ChangeSpec := { name := "lawS4446AWalk", fn := fun _ => fun
  | [d1, d2] => { results := [.lit (.bool true)], args := [d1, d2] }
  | _ => none }
def lawS4446AWalkRow : OpenClaim := { program := "ybulkcnba", sum := "d12a1d536f9d9aec928c022289a970494a46b2632fc80fde4cb0ef3fd7d34995", func := "example.com/unphi/unphi.LawS4446AWalk", spec := "lawS4446AWalk", apart := false }
def LawS4446AWalkSaid : Prop := lawS4446AWalkRow.holds Yba.pinned (OpenSpec.ofChange lawS4446AWalkSpec)

/-- ITS FALSE NEIGHBOUR: 'it returns false'. Refute it at one input. -/
def lawS4446AWalkWrong : ChangeSpec := { name := "lawS4446AWalk", fn := fun _ => fun
  | [d1, d2] => { results := [.lit (.bool false)], args := [d1, d2] }
  | _ => none }
def LawS4446AWalkWrongFalsely : Prop := lawS4446AWalkRow.holds Yba.pinned (OpenSpec.ofChange lawS4446AWalkWrong)

/-- 'unphi.LawS4446BFlush': WHATEVER THE INPUT: true; the input reads as it did. -/
def lawS4446BFlushSpec : ChangeSpec := { name := "lawS4446BFlush", fn := fun _ => fun
  | [d1, d2, d3, d4, d5, d6] => { results := [.lit (.bool true)], args := [d1, d2, d3, d4, d5, d6] }
  | _ => none }
def lawS4446BFlushRow : OpenClaim := { program := "ybulkcnba", sum := "d12a1d536f9d9aec928c022289a970494a46b2632fc80fde4cb0ef3fd7d34995", func := "example.com/unphi/unphi.LawS4446BFlush", spec := "lawS4446BFlush", unfollowed := true, recurses := true, apart := false }
def LawS4446BFlushSaid : Prop := lawS4446BFlushRow.holds Yba.pinned (OpenSpec.ofChange lawS4446BFlushSpec)

/-- ITS FALSE NEIGHBOUR: 'it returns false'. Refute it at one input. -/
def lawS4446BFlushWrong : ChangeSpec := { name := "lawS4446BFlush", fn := fun _ => fun
  | [d1, d2, d3, d4, d5, d6] => { results := [.lit (.bool false)], args := [d1, d2, d3, d4, d5, d6] }
  | _ => none }
def LawS4446BFlushWrongFalsely : Prop := lawS4446BFlushRow.holds Yba.pinned (OpenSpec.ofChange lawS4446BFlushWrong)

/-- 'unphi.LawS4446BSticky': WHATEVER THE INPUT: true; the input reads as it did. -/
def lawS4446BStickySpec : ChangeSpec := { name := "lawS4446BSticky", fn := fun _ => fun
  | [d1, d2] => { results := [.lit (.bool true)], args := [d1, d2] }
  | _ => none }
def lawS4446BStickyRow : OpenClaim := { program := "ybulkcnba", sum := "d12a1d536f9d9aec928c022289a970494a46b2632fc80fde4cb0ef3fd7d34995", func := "example.com/unphi/unphi.LawS4446BSticky", spec := "lawS4446BSticky", unfollowed := true, recurses := true, apart := false }
def LawS4446BStickySaid : Prop := lawS4446BStickyRow.holds Yba.pinned (OpenSpec.ofChange lawS4446BStickySpec)

/-- ITS FALSE NEIGHBOUR: 'it returns false'. Refute it at one input. -/
def lawS4446BStickyWrong : ChangeSpec := { name := "lawS4446BSticky", fn := fun _ => fun
  | [d1, d2] => { results := [.lit (.bool false)], args := [d1, d2] }
  | _ => none }
def LawS4446BStickyWrongFalsely : Prop := lawS4446BStickyRow.holds Yba.pinned (OpenSpec.ofChange lawS4446BStickyWrong)

end Rows
end Go.Proofs.Ybulkcnba

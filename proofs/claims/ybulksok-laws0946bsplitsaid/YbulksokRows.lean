/-
  No cell of these rows narrows 'for every input' (looked for: loops, veiled, ifaces, maps, wideKeys, modest, calm, conditions, laid).
  DERIVED. THE GIVEN ROWS OF THIS SEAT. 2 by the template 'for every input the law returns true; each argument reads behind the call as it read before'; 0 by the template 'total and deterministic' (their statements: YbulksokTotals.lean).
  GIVEN WITH THE SEED: the statements are not yours to turn. If you find one false, say at which input.
  Laid BY PROGRAM, IN A SANDBOX (cutbox-rows.mjs): the forced cells as the released guide's own fill.sh prints them over the translation ab70c52eeed9ff11… (all of the seat's roots in one cut). By AI agents, Wed Nov 11 2026. No macro, syntax, notation, axiom, sorry.
-/
import Derived.Test.YbulksokChecked
import GoSem.Claim
import GoSem.ClaimJoined
import GoSem.ClaimMapViews
import Derived.JoinedTies
import Derived.KernelRfl
namespace Go.Proofs.Ybulksok
/- THE CELL 'sum', in the pinned program and in every row, IS THE sha256 OF THE DUMP (.gsa) THAT YbulksokProg.lean LOADS. Nothing in Lean hashes anything: it is a label: what it is worth is what the hold of that sum in a sandbox is worth. -/
noncomputable def Yba.pinned : Pinned := { name := "ybulksok", sum := "ab70c52eeed9ff11bc64053d4a627f517412a7760b991cb295df780f166ca01f", checked := Yba.checked }
namespace Rows
def none {H : Type} : Left H := { results := [], args := [] }

/-- 'decision-combiner.LawS0946AOneOrMany': WHATEVER THE INPUT: true; the input reads as it did. -/
def lawS0946AOneOrManySpec : ChangeSpec := { name := "lawS0946AOneOrMany", fn := fun _ => fun
  | [d] => { results := [.lit (.bool true)], args := [d] }
  | _ => none }
def lawS0946AOneOrManyRow : OpenClaim := { program := "ybulksok", sum := "ab70c52eeed9ff11bc64053d4a627f517412a7760b991cb295df780f166ca01f", func := "example.com/decision-combiner/decision-combiner.LawS0946AOneOrMany", spec := "lawS0946AOneOrMany", apart := false }
def LawS0946AOneOrManySaid : Prop := lawS0946AOneOrManyRow.holds Yba.pinned (OpenSpec.ofChange lawS0946AOneOrManySpec)

/-- ITS FALSE NEIGHBOUR: 'it returns false'. Refute it at one input. -/
def lawS0946AOneOrManyWrong : ChangeSpec := { name := "lawS0946AOneOrMany", fn := fun _ => fun
  | [d] => { results := [.lit (.bool false)], args := [d] }
  | _ => none }
def LawS0946AOneOrManyWrongFalsely : Prop := lawS0946AOneOrManyRow.holds Yba.pinned (OpenSpec.ofChange lawS0946AOneOrManyWrong)

/-- 'decision-combiner.LawS0946BSplit': WHATEVER THE INPUT: true; the input reads as it did. -/
def lawS0946BSplitSpec : ChangeSpec := { name := "lawS0946BSplit", fn := fun _ => fun
  | [d1, d2] => { results := [.lit (.bool true)], args := [d1, d2] }
  | _ => none }
def lawS0946BSplitRow : OpenClaim := { program := "ybulksok", sum := "ab70c52eeed9ff11bc64053d4a627f517412a7760b991cb295df780f166ca01f", func := "example.com/decision-combiner/decision-combiner.LawS0946BSplit", spec := "lawS0946BSplit", apart := false }
def LawS0946BSplitSaid : Prop := lawS0946BSplitRow.holds Yba.pinned (OpenSpec.ofChange lawS0946BSplitSpec)

/-- ITS FALSE NEIGHBOUR: 'it returns false'. Refute it at one input. -/
def lawS0946BSplitWrong : ChangeSpec := { name := "lawS0946BSplit", fn := fun _ => fun
  | [d1, d2] => { results := [.lit (.bool false)], args := [d1, d2] }
  | _ => none }
def LawS0946BSplitWrongFalsely : Prop := lawS0946BSplitRow.holds Yba.pinned (OpenSpec.ofChange lawS0946BSplitWrong)

end Rows
end Go.Proofs.Ybulksok

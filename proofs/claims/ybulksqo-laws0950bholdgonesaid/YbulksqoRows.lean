/-
  No cell of these rows narrows 'for every input' (looked for: loops, veiled, ifaces, maps, wideKeys, modest, calm, conditions, laid).
  DERIVED. THE GIVEN ROWS OF THIS SEAT. 1 by the template 'for every input the law returns true; each argument reads behind the call as it read before'; 0 by the template 'total and deterministic' (their statements: YbulksqoTotals.lean).
  GIVEN WITH THE SEED: the statements are not yours to turn. If you find one false, say at which input.
  Laid BY PROGRAM, IN A SANDBOX (cutbox-rows.mjs): the forced cells as the released guide's own fill.sh prints them over the translation 52ed2aa7937089d7… (all of the seat's roots in one cut). By AI agents, Wed Nov 11 2026. No macro, syntax, notation, axiom, sorry.
-/
import Derived.Test.YbulksqoChecked
import GoSem.Claim
import GoSem.ClaimJoined
import GoSem.ClaimMapViews
import Derived.JoinedTies
import Derived.KernelRfl
namespace Go.Proofs.Ybulksqo
/- THE CELL 'sum', in the pinned program and in every row, IS THE sha256 OF THE DUMP (.gsa) THAT YbulksqoProg.lean LOADS. Nothing in Lean hashes anything: it is a label: what it is worth is what the hold of that sum in a sandbox is worth. -/
noncomputable def Yba.pinned : Pinned := { name := "ybulksqo", sum := "52ed2aa7937089d75f5124c2855cf3e697665e588d1a5f5044c1b35fa76559f4", checked := Yba.checked }
namespace Rows
def none {H : Type} : Left H := { results := [], args := [] }

/-- 'swim.LawS0950BHoldGone': WHATEVER THE INPUT: true; the input reads as it did. -/
def lawS0950BHoldGoneSpec : ChangeSpec := { name := "lawS0950BHoldGone", fn := fun _ => fun
  | [d1, d2, d3, d4, d5] => { results := [.lit (.bool true)], args := [d1, d2, d3, d4, d5] }
  | _ => none }
def lawS0950BHoldGoneRow : OpenClaim := { program := "ybulksqo", sum := "52ed2aa7937089d75f5124c2855cf3e697665e588d1a5f5044c1b35fa76559f4", func := "example.com/murmurate/murmurate/internal/swim.LawS0950BHoldGone", spec := "lawS0950BHoldGone", plainKeys := false, apart := false }
def LawS0950BHoldGoneSaid : Prop := lawS0950BHoldGoneRow.holds Yba.pinned (OpenSpec.ofChange lawS0950BHoldGoneSpec)

/-- ITS FALSE NEIGHBOUR: 'it returns false'. Refute it at one input. -/
def lawS0950BHoldGoneWrong : ChangeSpec := { name := "lawS0950BHoldGone", fn := fun _ => fun
  | [d1, d2, d3, d4, d5] => { results := [.lit (.bool false)], args := [d1, d2, d3, d4, d5] }
  | _ => none }
def LawS0950BHoldGoneWrongFalsely : Prop := lawS0950BHoldGoneRow.holds Yba.pinned (OpenSpec.ofChange lawS0950BHoldGoneWrong)

end Rows
end Go.Proofs.Ybulksqo

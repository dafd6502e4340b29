/-
  No cell of these rows narrows 'for every input' (looked for: loops, veiled, ifaces, maps, wideKeys, modest, calm, conditions, laid).
  DERIVED. THE GIVEN ROWS OF THIS SEAT. 5 by the template 'for every input the law returns true; each argument reads behind the call as it read before'; 0 by the template 'total and deterministic' (their statements: YbulksimTotals.lean).
  GIVEN WITH THE SEED: the statements are not yours to turn. If you find one false, say at which input.
  Laid BY PROGRAM, IN A SANDBOX (cutbox-rows.mjs): the forced cells as the released guide's own fill.sh prints them over the translation 4e50367b592d2481… (all of the seat's roots in one cut). By AI agents, Wed Nov 11 2026. No macro, syntax, notation, axiom, sorry.
-/
import Derived.Test.YbulksimChecked
import GoSem.Claim
import GoSem.ClaimJoined
import GoSem.ClaimMapViews
import Derived.JoinedTies
import Derived.KernelRfl
namespace Go.Proofs.Ybulksim
/- THE CELL 'sum', in the pinned program and in every row, IS THE sha256 OF THE DUMP (.gsa) THAT YbulksimProg.lean LOADS. Nothing in Lean hashes anything: it is a label: what it is worth is what the hold of that sum in a sandbox is worth. -/
noncomputable def Yba.pinned : Pinned := { name := "ybulksim", sum := "4e50367b592d2481ce8161e9702022b40d8d4aeece4795e988600f880e18ef77", checked := Yba.checked }
namespace Rows
def none {H : Type} : Left H := { results := [], args := [] }

/-- 'lock.LawS0935ALiteral': WHATEVER THE INPUT: true; the input reads as it did. -/
def lawS0935ALiteralSpec : ChangeSpec := { name := "lawS0935ALiteral", fn := fun _ => fun
  | [d1, d2, d3, d4] => { results := [.lit (.bool true)], args := [d1, d2, d3, d4] }
  | _ => none }
def lawS0935ALiteralRow : OpenClaim := { program := "ybulksim", sum := "4e50367b592d2481ce8161e9702022b40d8d4aeece4795e988600f880e18ef77", func := "example.com/chronoserial/chronoserial/internal/lock.LawS0935ALiteral", spec := "lawS0935ALiteral", unfollowed := true, recurses := true, apart := false }
def LawS0935ALiteralSaid : Prop := lawS0935ALiteralRow.holds Yba.pinned (OpenSpec.ofChange lawS0935ALiteralSpec)

/-- ITS FALSE NEIGHBOUR: 'it returns false'. Refute it at one input. -/
def lawS0935ALiteralWrong : ChangeSpec := { name := "lawS0935ALiteral", fn := fun _ => fun
  | [d1, d2, d3, d4] => { results := [.lit (.bool false)], args := [d1, d2, d3, d4] }
  | _ => none }
def LawS0935ALiteralWrongFalsely : Prop := lawS0935ALiteralRow.holds Yba.pinned (OpenSpec.ofChange lawS0935ALiteralWrong)

/-- 'lock.LawS0935AScript': WHATEVER THE INPUT: true; the input reads as it did. -/
def lawS0935AScriptSpec : ChangeSpec := { name := "lawS0935AScript", fn := fun _ => fun
  | [d] => { results := [.lit (.bool true)], args := [d] }
  | _ => none }
def lawS0935AScriptRow : OpenClaim := { program := "ybulksim", sum := "4e50367b592d2481ce8161e9702022b40d8d4aeece4795e988600f880e18ef77", func := "example.com/chronoserial/chronoserial/internal/lock.LawS0935AScript", spec := "lawS0935AScript", unfollowed := true, recurses := true, apart := false }
def LawS0935AScriptSaid : Prop := lawS0935AScriptRow.holds Yba.pinned (OpenSpec.ofChange lawS0935AScriptSpec)

/-- ITS FALSE NEIGHBOUR: 'it returns false'. Refute it at one input. -/
def lawS0935AScriptWrong : ChangeSpec := { name := "lawS0935AScript", fn := fun _ => fun
  | [d] => { results := [.lit (.bool false)], args := [d] }
  | _ => none }
def LawS0935AScriptWrongFalsely : Prop := lawS0935AScriptRow.holds Yba.pinned (OpenSpec.ofChange lawS0935AScriptWrong)

/-- 'history.LawS0935BShow': WHATEVER THE INPUT: true; the input reads as it did. -/
def lawS0935BShowSpec : ChangeSpec := { name := "lawS0935BShow", fn := fun _ => fun
  | [d1, d2] => { results := [.lit (.bool true)], args := [d1, d2] }
  | _ => none }
def lawS0935BShowRow : OpenClaim := { program := "ybulksim", sum := "4e50367b592d2481ce8161e9702022b40d8d4aeece4795e988600f880e18ef77", func := "example.com/chronoserial/chronoserial/internal/history.LawS0935BShow", spec := "lawS0935BShow", apart := false }
def LawS0935BShowSaid : Prop := lawS0935BShowRow.holds Yba.pinned (OpenSpec.ofChange lawS0935BShowSpec)

/-- ITS FALSE NEIGHBOUR: 'it returns false'. Refute it at one input. -/
def lawS0935BShowWrong : ChangeSpec := { name := "lawS0935BShow", fn := fun _ => fun
  | [d1, d2] => { results := [.lit (.bool false)], args := [d1, d2] }
  | _ => none }
def LawS0935BShowWrongFalsely : Prop := lawS0935BShowRow.holds Yba.pinned (OpenSpec.ofChange lawS0935BShowWrong)

/-- 'history.LawS0935BAbsentIgnoresValue': WHATEVER THE INPUT: true; the input reads as it did. -/
def lawS0935BAbsentIgnoresValueSpec : ChangeSpec := { name := "lawS0935BAbsentIgnoresValue", fn := fun _ => fun
  | [d1, d2] => { results := [.lit (.bool true)], args := [d1, d2] }
  | _ => none }
def lawS0935BAbsentIgnoresValueRow : OpenClaim := { program := "ybulksim", sum := "4e50367b592d2481ce8161e9702022b40d8d4aeece4795e988600f880e18ef77", func := "example.com/chronoserial/chronoserial/internal/history.LawS0935BAbsentIgnoresValue", spec := "lawS0935BAbsentIgnoresValue", apart := false }
def LawS0935BAbsentIgnoresValueSaid : Prop := lawS0935BAbsentIgnoresValueRow.holds Yba.pinned (OpenSpec.ofChange lawS0935BAbsentIgnoresValueSpec)

/-- ITS FALSE NEIGHBOUR: 'it returns false'. Refute it at one input. -/
def lawS0935BAbsentIgnoresValueWrong : ChangeSpec := { name := "lawS0935BAbsentIgnoresValue", fn := fun _ => fun
  | [d1, d2] => { results := [.lit (.bool false)], args := [d1, d2] }
  | _ => none }
def LawS0935BAbsentIgnoresValueWrongFalsely : Prop := lawS0935BAbsentIgnoresValueRow.holds Yba.pinned (OpenSpec.ofChange lawS0935BAbsentIgnoresValueWrong)

/-- 'replay.LawS0935CKeepsValidation': WHATEVER THE INPUT: true; the input reads as it did. -/
def lawS0935CKeepsValidationSpec : ChangeSpec := { name := "lawS0935CKeepsValidation", fn := fun _ => fun
  | [d1, d2, d3] => { results := [.lit (.bool true)], args := [d1, d2, d3] }
  | _ => none }
def lawS0935CKeepsValidationRow : OpenClaim := { program := "ybulksim", sum := "4e50367b592d2481ce8161e9702022b40d8d4aeece4795e988600f880e18ef77", func := "example.com/chronoserial/chronoserial/internal/replay.LawS0935CKeepsValidation", spec := "lawS0935CKeepsValidation", unfollowed := true, recurses := true, apart := false }
def LawS0935CKeepsValidationSaid : Prop := lawS0935CKeepsValidationRow.holds Yba.pinned (OpenSpec.ofChange lawS0935CKeepsValidationSpec)

/-- ITS FALSE NEIGHBOUR: 'it returns false'. Refute it at one input. -/
def lawS0935CKeepsValidationWrong : ChangeSpec := { name := "lawS0935CKeepsValidation", fn := fun _ => fun
  | [d1, d2, d3] => { results := [.lit (.bool false)], args := [d1, d2, d3] }
  | _ => none }
def LawS0935CKeepsValidationWrongFalsely : Prop := lawS0935CKeepsValidationRow.holds Yba.pinned (OpenSpec.ofChange lawS0935CKeepsValidationWrong)

end Rows
end Go.Proofs.Ybulksim

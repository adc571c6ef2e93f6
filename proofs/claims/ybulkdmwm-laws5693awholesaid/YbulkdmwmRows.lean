/-
  No cell of these rows narrows 'for every input' (looked for: loops, veiled, ifaces, maps, wideKeys, modest, calm, conditions, laid).
  DERIVED. THE GIVEN ROWS OF THIS SEAT. 2 by the template 'for every input the law returns true; each argument reads behind the call as it read before'; 0 by the template 'total and deterministic' (their statements: YbulkdmwmTotals.lean).
  GIVEN WITH THE SEED: the statements are not yours to turn. If you find one false, say at which input.
  Laid BY PROGRAM, IN A SANDBOX (cutbox-rows.mjs): the forced cells as the released guide's own fill.sh prints them over the translation 53f68f573a0a7f63… (all of the seat's roots in one cut). By AI agents, Wed Nov 11 2026. No macro, syntax, notation, axiom, sorry.
-/
import Derived.Test.YbulkdmwmChecked
import GoSem.Claim
import GoSem.ClaimJoined
import GoSem.ClaimMapViews
import Derived.JoinedTies
import Derived.KernelRfl
namespace Go.Proofs.Ybulkdmwm
/- THE CELL 'sum', in the pinned program and in every row, IS THE sha256 OF THE DUMP (.gsa) THAT YbulkdmwmProg.lean LOADS. Nothing in Lean hashes anything: it is a label: what it is worth is what the hold of that sum in a sandbox is worth. -/
noncomputable def Yba.pinned : Pinned := { name := "ybulkdmwm", sum := "53f68f573a0a7f63f8eb479b9a7027c421f472bc6dcc6b8b481598f8977c507a", checked := Yba.checked }
namespace Rows
def none {H : Type} : Left H := { results := [], args := [] }

/-- 'qos.LawS5693AWhole': WHATEVER THE INPUT: true; the input reads as it did. -/
def lawS5693AWholeSpec : ChangeSpec := { name := "lawS5693AWhole", fn := fun _ => fun
  | [d1, d2, d3, d4] => { results := [.lit (.bool true)], args := [d1, d2, d3, d4] }
  | _ => none }
def lawS5693AWholeRow : OpenClaim := { program := "ybulkdmwm", sum := "53f68f573a0a7f63f8eb479b9a7027c421f472bc6dcc6b8b481598f8977c507a", func := "example.com/gatewright/gatewright/qos.LawS5693AWhole", spec := "lawS5693AWhole", apart := false }
def LawS5693AWholeSaid : Prop := lawS5693AWholeRow.holds Yba.pinned (OpenSpec.ofChange lawS5693AWholeSpec)

/-- ITS FALSE NEIGHBOUR: 'it returns false'. Refute it at one input. -/
def lawS5693AWholeWrong : ChangeSpec := { name := "lawS5693AWhole", fn := fun _ => fun
  | [d1, d2, d3, d4] => { results := [.lit (.bool false)], args := [d1, d2, d3, d4] }
  | _ => none }
def LawS5693AWholeWrongFalsely : Prop := lawS5693AWholeRow.holds Yba.pinned (OpenSpec.ofChange lawS5693AWholeWrong)

/-- 'gateway.LawS5693CWhole': WHATEVER THE INPUT: true; the input reads as it did. -/
def lawS5693CWholeSpec : ChangeSpec := { name := "lawS5693CWhole", fn := fun _ => fun
  | [d1, d2] => { results := [.lit (.bool true)], args := [d1, d2] }
  | _ => none }
def lawS5693CWholeRow : OpenClaim := { program := "ybulkdmwm", sum := "53f68f573a0a7f63f8eb479b9a7027c421f472bc6dcc6b8b481598f8977c507a", func := "example.com/gatewright/gatewright/gateway.LawS5693CWhole", spec := "lawS5693CWhole", apart := false }
def LawS5693CWholeSaid : Prop := lawS5693CWholeRow.holds Yba.pinned (OpenSpec.ofChange lawS5693CWholeSpec)

/-- ITS FALSE NEIGHBOUR: 'it returns false'. Refute it at one input. -/
def lawS5693CWholeWrong : ChangeSpec := { name := "lawS5693CWhole", fn := fun _ => fun
  | [d1, d2] => { results := [.lit (.bool false)], args := [d1, d2] }
  | _ => none }
def LawS5693CWholeWrongFalsely : Prop := lawS5693CWholeRow.holds Yba.pinned (OpenSpec.ofChange lawS5693CWholeWrong)

end Rows
end Go.Proofs.Ybulkdmwm

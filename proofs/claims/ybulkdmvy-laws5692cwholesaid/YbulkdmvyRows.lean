/-
  No cell of these rows narrows 'for every input' (looked for: loops, veiled, ifaces, maps, wideKeys, modest, calm, conditions, laid).
  DERIVED. THE GIVEN ROWS OF THIS SEAT. 1 by the template 'for every input the law returns true; each argument reads behind the call as it read before'; 0 by the template 'total and deterministic' (their statements: YbulkdmvyTotals.lean).
  GIVEN WITH THE SEED: the statements are not yours to turn. If you find one false, say at which input.
  Laid BY PROGRAM, IN A SANDBOX (cutbox-rows.mjs): the forced cells as the released guide's own fill.sh prints them over the translation c24a2875cc31ba89… (all of the seat's roots in one cut). By AI agents, Wed Nov 11 2026. No macro, syntax, notation, axiom, sorry.
-/
import Derived.Test.YbulkdmvyChecked
import GoSem.Claim
import GoSem.ClaimJoined
import GoSem.ClaimMapViews
import Derived.JoinedTies
import Derived.KernelRfl
namespace Go.Proofs.Ybulkdmvy
/- THE CELL 'sum', in the pinned program and in every row, IS THE sha256 OF THE DUMP (.gsa) THAT YbulkdmvyProg.lean LOADS. Nothing in Lean hashes anything: it is a label: what it is worth is what the hold of that sum in a sandbox is worth. -/
noncomputable def Yba.pinned : Pinned := { name := "ybulkdmvy", sum := "c24a2875cc31ba8958673fa1b174c35f96bd685269e99276e6b5334556bfa887", checked := Yba.checked }
namespace Rows
def none {H : Type} : Left H := { results := [], args := [] }

/-- 'sched.LawS5692CWhole': WHATEVER THE INPUT: true; the input reads as it did. -/
def lawS5692CWholeSpec : ChangeSpec := { name := "lawS5692CWhole", fn := fun _ => fun
  | [d1, d2, d3, d4] => { results := [.lit (.bool true)], args := [d1, d2, d3, d4] }
  | _ => none }
def lawS5692CWholeRow : OpenClaim := { program := "ybulkdmvy", sum := "c24a2875cc31ba8958673fa1b174c35f96bd685269e99276e6b5334556bfa887", func := "example.com/mosaicrun/mosaicrun/sched.LawS5692CWhole", spec := "lawS5692CWhole", apart := false }
def LawS5692CWholeSaid : Prop := lawS5692CWholeRow.holds Yba.pinned (OpenSpec.ofChange lawS5692CWholeSpec)

/-- ITS FALSE NEIGHBOUR: 'it returns false'. Refute it at one input. -/
def lawS5692CWholeWrong : ChangeSpec := { name := "lawS5692CWhole", fn := fun _ => fun
  | [d1, d2, d3, d4] => { results := [.lit (.bool false)], args := [d1, d2, d3, d4] }
  | _ => none }
def LawS5692CWholeWrongFalsely : Prop := lawS5692CWholeRow.holds Yba.pinned (OpenSpec.ofChange lawS5692CWholeWrong)

end Rows
end Go.Proofs.Ybulkdmvy

/-
  No cell of these rows narrows 'for every input' (looked for: loops, veiled, ifaces, maps, wideKeys, modest, calm, conditions, laid).
  DERIVED. THE GIVEN ROWS OF THIS SEAT. 1 by the template 'for every input the law returns true; each argument reads behind the call as it read before'; 0 by the template 'total and deterministic' (their statements: YbulkdmxaTotals.lean).
  GIVEN WITH THE SEED: the statements are not yours to turn. If you find one false, say at which input.
  Laid BY PROGRAM, IN A SANDBOX (cutbox-rows.mjs): the forced cells as the released guide's own fill.sh prints them over the translation a5f1fca433efc7ed… (all of the seat's roots in one cut). By AI agents, Wed Nov 11 2026. No macro, syntax, notation, axiom, sorry.
-/
import Derived.Test.YbulkdmxaChecked
import GoSem.Claim
import GoSem.ClaimJoined
import GoSem.ClaimMapViews
import Derived.JoinedTies
import Derived.KernelRfl
namespace Go.Proofs.Ybulkdmxa
/- THE CELL 'sum', in the pinned program and in every row, IS THE sha256 OF THE DUMP (.gsa) THAT YbulkdmxaProg.lean LOADS. Nothing in Lean hashes anything: it is a label: what it is worth is what the hold of that sum in a sandbox is worth. -/
noncomputable def Yba.pinned : Pinned := { name := "ybulkdmxa", sum := "a5f1fca433efc7ed8538ed2fb2d9c6ad5da45289721e9bfabddc98d0726dbd4e", checked := Yba.checked }
namespace Rows
def none {H : Type} : Left H := { results := [], args := [] }

/-- 'registry.LawS5694AWhole': WHATEVER THE INPUT: true; the input reads as it did. -/
def lawS5694AWholeSpec : ChangeSpec := { name := "lawS5694AWhole", fn := fun _ => fun
  | [d1, d2] => { results := [.lit (.bool true)], args := [d1, d2] }
  | _ => none }
def lawS5694AWholeRow : OpenClaim := { program := "ybulkdmxa", sum := "a5f1fca433efc7ed8538ed2fb2d9c6ad5da45289721e9bfabddc98d0726dbd4e", func := "example.com/credloom/credloom/registry.LawS5694AWhole", spec := "lawS5694AWhole", named := ["encoding/binary.LittleEndian"], apart := false }
def LawS5694AWholeSaid : Prop := lawS5694AWholeRow.holds Yba.pinned (OpenSpec.ofChange lawS5694AWholeSpec)

/-- ITS FALSE NEIGHBOUR: 'it returns false'. Refute it at one input. -/
def lawS5694AWholeWrong : ChangeSpec := { name := "lawS5694AWhole", fn := fun _ => fun
  | [d1, d2] => { results := [.lit (.bool false)], args := [d1, d2] }
  | _ => none }
def LawS5694AWholeWrongFalsely : Prop := lawS5694AWholeRow.holds Yba.pinned (OpenSpec.ofChange lawS5694AWholeWrong)

end Rows
end Go.Proofs.Ybulkdmxa

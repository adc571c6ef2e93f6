/-
  NARROWER THAN 'FOR EVERY INPUT', by the rows' own cells (each row's printed sentence says how): LawS5694CWhole: laid.
  DERIVED. THE GIVEN ROWS OF THIS SEAT. 1 by the template 'for every input the law returns true; each argument reads behind the call as it read before'; 0 by the template 'total and deterministic' (their statements: YbulkdmxaDoorTotals.lean).
  GIVEN WITH THE SEED: the statements are not yours to turn. If you find one false, say at which input.
  Laid BY PROGRAM, IN A SANDBOX (cutbox-rows.mjs): the forced cells as the released guide's own fill.sh prints them over the translation 2f58a801fd7a471b… (all of the seat's roots in one cut). By AI agents, Wed Nov 11 2026. No macro, syntax, notation, axiom, sorry.
-/
import Derived.Test.YbulkdmxaDoorChecked
import GoSem.Claim
import GoSem.ClaimJoined
import GoSem.ClaimMapViews
import Derived.JoinedTies
import Derived.KernelRfl
namespace Go.Proofs.YbulkdmxaDoor
/- THE CELL 'sum', in the pinned program and in every row, IS THE sha256 OF THE DUMP (.gsa) THAT YbulkdmxaDoorProg.lean LOADS. Nothing in Lean hashes anything: it is a label: what it is worth is what the hold of that sum in a sandbox is worth. -/
noncomputable def Ybad.pinned : Pinned := { name := "ybulkdmxadoor", sum := "2f58a801fd7a471bebfa6016b8fb1e27e25845c7a080706aa236099e4153bd14", checked := Ybad.checked }
namespace Rows
def none {H : Type} : Left H := { results := [], args := [] }

/- WHAT THE LISTED PACKAGE-LEVEL VARIABLES READ AS WHEN THE CALL BEGINS. Each datum BY PROGRAM (the guide's laid-datum.mjs) off the statement by which the dump's own 'gosem.cut.vars' lays the variable. In a bare row this is a premise. The card (YbulkdmxaDoorCards.lean) ties it to the program's text. -/
def laid_bytes_ErrTooLarge {H : Type} : DataW H := .iface "*errors.errorString" (.ptr (.agg [.lit (.string [98, 121, 116, 101, 115, 46, 66, 117, 102, 102, 101, 114, 58, 32, 116, 111, 111, 32, 108, 97, 114, 103, 101])]))

/-- 'credential.LawS5694CWhole': WHATEVER THE INPUT: true; the input reads as it did. -/
def lawS5694CWholeSpec : ChangeSpec := { name := "lawS5694CWhole", fn := fun _ => fun
  | [d1, d2, d3, d4] => { results := [.lit (.bool true)], args := [d1, d2, d3, d4] }
  | _ => none }
def lawS5694CWholeRow : OpenClaim := { program := "ybulkdmxadoor", sum := "2f58a801fd7a471bebfa6016b8fb1e27e25845c7a080706aa236099e4153bd14", func := "example.com/credloom/credloom/credential.LawS5694CWhole", spec := "lawS5694CWhole", named := ["bytes.ErrTooLarge"], apart := false, laid := [("bytes.ErrTooLarge", laid_bytes_ErrTooLarge)] }
def LawS5694CWholeSaid : Prop := lawS5694CWholeRow.holds Ybad.pinned (OpenSpec.ofChange lawS5694CWholeSpec)

/-- ITS FALSE NEIGHBOUR: 'it returns false'. Refute it at one input. -/
def lawS5694CWholeWrong : ChangeSpec := { name := "lawS5694CWhole", fn := fun _ => fun
  | [d1, d2, d3, d4] => { results := [.lit (.bool false)], args := [d1, d2, d3, d4] }
  | _ => none }
def LawS5694CWholeWrongFalsely : Prop := lawS5694CWholeRow.holds Ybad.pinned (OpenSpec.ofChange lawS5694CWholeWrong)

end Rows
end Go.Proofs.YbulkdmxaDoor

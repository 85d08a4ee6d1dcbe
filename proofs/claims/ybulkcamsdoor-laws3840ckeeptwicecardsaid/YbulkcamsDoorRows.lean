/-
  NARROWER THAN 'FOR EVERY INPUT', by the rows' own cells (each row's printed sentence says how): LawS3840CKeepOne: laid · LawS3840CKeepTwice: laid.
  DERIVED. THE GIVEN ROWS OF THIS SEAT. 2 by the template 'for every input the law returns true; each argument reads behind the call as it read before'; 0 by the template 'total and deterministic' (their statements: YbulkcamsDoorTotals.lean).
  GIVEN WITH THE SEED: the statements are not yours to turn. If you find one false, say at which input.
  Laid BY PROGRAM, IN A SANDBOX (cutbox-rows.mjs): the forced cells as the released guide's own fill.sh prints them over the translation 968cb60cccec19b5… (all of the seat's roots in one cut). By AI agents, Wed Nov 11 2026. No macro, syntax, notation, axiom, sorry.
-/
import Derived.Test.YbulkcamsDoorChecked
import GoSem.Claim
import GoSem.ClaimJoined
import GoSem.ClaimMapViews
import Derived.JoinedTies
import Derived.KernelRfl
namespace Go.Proofs.YbulkcamsDoor
/- THE CELL 'sum', in the pinned program and in every row, IS THE sha256 OF THE DUMP (.gsa) THAT YbulkcamsDoorProg.lean LOADS. Nothing in Lean hashes anything: it is a label: what it is worth is what the hold of that sum in a sandbox is worth. -/
noncomputable def Ybad.pinned : Pinned := { name := "ybulkcamsdoor", sum := "968cb60cccec19b5afafa983a3ce935f3afb63f7e6f652557ceaf5821ebbc0d1", checked := Ybad.checked }
namespace Rows
def none {H : Type} : Left H := { results := [], args := [] }

/- WHAT THE LISTED PACKAGE-LEVEL VARIABLES READ AS WHEN THE CALL BEGINS. Each datum BY PROGRAM (the guide's laid-datum.mjs) off the statement by which the dump's own 'gosem.cut.vars' lays the variable. In a bare row this is a premise. The card (YbulkcamsDoorCards.lean) ties it to the program's text. -/
def laid_example_com_gatewright_gatewright_replyKept {H : Type} : DataW H := .lit (.int .i64 90000000000)

/-- 'gatewright.LawS3840CKeepOne': WHATEVER THE INPUT: true; the input reads as it did. -/
def lawS3840CKeepOneSpec : ChangeSpec := { name := "lawS3840CKeepOne", vars := ["example.com/gatewright/gatewright.replyKept"], fn := fun _ => fun
  | [d1, d2, d3, d4, d5, g1] => { results := [.lit (.bool true)], args := [d1, d2, d3, d4, d5], vars := [g1] }
  | _ => none }
def lawS3840CKeepOneRow : OpenClaim := { program := "ybulkcamsdoor", sum := "968cb60cccec19b5afafa983a3ce935f3afb63f7e6f652557ceaf5821ebbc0d1", func := "example.com/gatewright/gatewright.LawS3840CKeepOne", spec := "lawS3840CKeepOne", named := ["example.com/gatewright/gatewright.replyKept"], apart := false, laid := [("example.com/gatewright/gatewright.replyKept", laid_example_com_gatewright_gatewright_replyKept)] }
def LawS3840CKeepOneSaid : Prop := lawS3840CKeepOneRow.holds Ybad.pinned (OpenSpec.ofChange lawS3840CKeepOneSpec)

/-- ITS FALSE NEIGHBOUR: 'it returns false'. Refute it at one input. -/
def lawS3840CKeepOneWrong : ChangeSpec := { name := "lawS3840CKeepOne", vars := ["example.com/gatewright/gatewright.replyKept"], fn := fun _ => fun
  | [d1, d2, d3, d4, d5, g1] => { results := [.lit (.bool false)], args := [d1, d2, d3, d4, d5], vars := [g1] }
  | _ => none }
def LawS3840CKeepOneWrongFalsely : Prop := lawS3840CKeepOneRow.holds Ybad.pinned (OpenSpec.ofChange lawS3840CKeepOneWrong)

/-- 'gatewright.LawS3840CKeepTwice': WHATEVER THE INPUT: true; the input reads as it did. -/
def lawS3840CKeepTwiceSpec : ChangeSpec := { name := "lawS3840CKeepTwice", vars := ["example.com/gatewright/gatewright.replyKept"], fn := fun _ => fun
  | [d1, d2, d3, d4, d5, d6, g1] => { results := [.lit (.bool true)], args := [d1, d2, d3, d4, d5, d6], vars := [g1] }
  | _ => none }
def lawS3840CKeepTwiceRow : OpenClaim := { program := "ybulkcamsdoor", sum := "968cb60cccec19b5afafa983a3ce935f3afb63f7e6f652557ceaf5821ebbc0d1", func := "example.com/gatewright/gatewright.LawS3840CKeepTwice", spec := "lawS3840CKeepTwice", named := ["example.com/gatewright/gatewright.replyKept"], apart := false, laid := [("example.com/gatewright/gatewright.replyKept", laid_example_com_gatewright_gatewright_replyKept)] }
def LawS3840CKeepTwiceSaid : Prop := lawS3840CKeepTwiceRow.holds Ybad.pinned (OpenSpec.ofChange lawS3840CKeepTwiceSpec)

/-- ITS FALSE NEIGHBOUR: 'it returns false'. Refute it at one input. -/
def lawS3840CKeepTwiceWrong : ChangeSpec := { name := "lawS3840CKeepTwice", vars := ["example.com/gatewright/gatewright.replyKept"], fn := fun _ => fun
  | [d1, d2, d3, d4, d5, d6, g1] => { results := [.lit (.bool false)], args := [d1, d2, d3, d4, d5, d6], vars := [g1] }
  | _ => none }
def LawS3840CKeepTwiceWrongFalsely : Prop := lawS3840CKeepTwiceRow.holds Ybad.pinned (OpenSpec.ofChange lawS3840CKeepTwiceWrong)

end Rows
end Go.Proofs.YbulkcamsDoor

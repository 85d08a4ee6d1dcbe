/-
  No cell of these rows narrows 'for every input' (looked for: loops, veiled, ifaces, maps, wideKeys, modest, calm, conditions, laid).
  DERIVED. THE GIVEN ROWS OF THIS SEAT. 3 by the template 'for every input the law returns true; each argument reads behind the call as it read before'; 0 by the template 'total and deterministic' (their statements: YbulkcajmTotals.lean).
  GIVEN WITH THE SEED: the statements are not yours to turn. If you find one false, say at which input.
  Laid BY PROGRAM, IN A SANDBOX (cutbox-rows.mjs): the forced cells as the released guide's own fill.sh prints them over the translation 6f53c38cf55e8cda… (all of the seat's roots in one cut). By AI agents, Wed Nov 11 2026. No macro, syntax, notation, axiom, sorry.
-/
import Derived.Test.YbulkcajmChecked
import GoSem.Claim
import GoSem.ClaimJoined
import GoSem.ClaimMapViews
import Derived.JoinedTies
import Derived.KernelRfl
namespace Go.Proofs.Ybulkcajm
/- THE CELL 'sum', in the pinned program and in every row, IS THE sha256 OF THE DUMP (.gsa) THAT YbulkcajmProg.lean LOADS. Nothing in Lean hashes anything: it is a label: what it is worth is what the hold of that sum in a sandbox is worth. -/
noncomputable def Yba.pinned : Pinned := { name := "ybulkcajm", sum := "6f53c38cf55e8cda8135f41e9eaa39493a3577949fac9682ebcf0b93c13bcd4a", checked := Yba.checked }
namespace Rows
def none {H : Type} : Left H := { results := [], args := [] }

/-- 'rpki.LawS3834BModel': WHATEVER THE INPUT: true; the input reads as it did. -/
def lawS3834BModelSpec : ChangeSpec := { name := "lawS3834BModel", fn := fun _ => fun
  | [d1, d2] => { results := [.lit (.bool true)], args := [d1, d2] }
  | _ => none }
def lawS3834BModelRow : OpenClaim := { program := "ybulkcajm", sum := "6f53c38cf55e8cda8135f41e9eaa39493a3577949fac9682ebcf0b93c13bcd4a", func := "example.com/anchorvane/anchorvane/pkg/rpki.LawS3834BModel", spec := "lawS3834BModel", apart := false }
def LawS3834BModelSaid : Prop := lawS3834BModelRow.holds Yba.pinned (OpenSpec.ofChange lawS3834BModelSpec)

/-- ITS FALSE NEIGHBOUR: 'it returns false'. Refute it at one input. -/
def lawS3834BModelWrong : ChangeSpec := { name := "lawS3834BModel", fn := fun _ => fun
  | [d1, d2] => { results := [.lit (.bool false)], args := [d1, d2] }
  | _ => none }
def LawS3834BModelWrongFalsely : Prop := lawS3834BModelRow.holds Yba.pinned (OpenSpec.ofChange lawS3834BModelWrong)

/-- 'rpki.LawS3834BIdem': WHATEVER THE INPUT: true; the input reads as it did. -/
def lawS3834BIdemSpec : ChangeSpec := { name := "lawS3834BIdem", fn := fun _ => fun
  | [d1, d2] => { results := [.lit (.bool true)], args := [d1, d2] }
  | _ => none }
def lawS3834BIdemRow : OpenClaim := { program := "ybulkcajm", sum := "6f53c38cf55e8cda8135f41e9eaa39493a3577949fac9682ebcf0b93c13bcd4a", func := "example.com/anchorvane/anchorvane/pkg/rpki.LawS3834BIdem", spec := "lawS3834BIdem", apart := false }
def LawS3834BIdemSaid : Prop := lawS3834BIdemRow.holds Yba.pinned (OpenSpec.ofChange lawS3834BIdemSpec)

/-- ITS FALSE NEIGHBOUR: 'it returns false'. Refute it at one input. -/
def lawS3834BIdemWrong : ChangeSpec := { name := "lawS3834BIdem", fn := fun _ => fun
  | [d1, d2] => { results := [.lit (.bool false)], args := [d1, d2] }
  | _ => none }
def LawS3834BIdemWrongFalsely : Prop := lawS3834BIdemRow.holds Yba.pinned (OpenSpec.ofChange lawS3834BIdemWrong)

/-- 'testrepo.LawS3834CRanges': WHATEVER THE INPUT: true; the input reads as it did. -/
def lawS3834CRangesSpec : ChangeSpec := { name := "lawS3834CRanges", fn := fun _ => fun
  | [d1, d2] => { results := [.lit (.bool true)], args := [d1, d2] }
  | _ => none }
def lawS3834CRangesRow : OpenClaim := { program := "ybulkcajm", sum := "6f53c38cf55e8cda8135f41e9eaa39493a3577949fac9682ebcf0b93c13bcd4a", func := "example.com/anchorvane/anchorvane/pkg/testrepo.LawS3834CRanges", spec := "lawS3834CRanges", apart := false }
def LawS3834CRangesSaid : Prop := lawS3834CRangesRow.holds Yba.pinned (OpenSpec.ofChange lawS3834CRangesSpec)

/-- ITS FALSE NEIGHBOUR: 'it returns false'. Refute it at one input. -/
def lawS3834CRangesWrong : ChangeSpec := { name := "lawS3834CRanges", fn := fun _ => fun
  | [d1, d2] => { results := [.lit (.bool false)], args := [d1, d2] }
  | _ => none }
def LawS3834CRangesWrongFalsely : Prop := lawS3834CRangesRow.holds Yba.pinned (OpenSpec.ofChange lawS3834CRangesWrong)

end Rows
end Go.Proofs.Ybulkcajm

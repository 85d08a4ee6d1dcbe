/-
  No cell of these rows narrows 'for every input' (looked for: loops, veiled, ifaces, maps, wideKeys, modest, calm, conditions, laid).
  DERIVED. THE GIVEN ROWS OF THIS SEAT. 1 by the template 'for every input the law returns true; each argument reads behind the call as it read before'; 0 by the template 'total and deterministic' (their statements: YbulkcameTotals.lean).
  GIVEN WITH THE SEED: the statements are not yours to turn. If you find one false, say at which input.
  Laid BY PROGRAM, IN A SANDBOX (cutbox-rows.mjs): the forced cells as the released guide's own fill.sh prints them over the translation 036101da8f0b7e8a… (all of the seat's roots in one cut). By AI agents, Wed Nov 11 2026. No macro, syntax, notation, axiom, sorry.
-/
import Derived.Test.YbulkcameChecked
import GoSem.Claim
import GoSem.ClaimJoined
import GoSem.ClaimMapViews
import Derived.JoinedTies
import Derived.KernelRfl
namespace Go.Proofs.Ybulkcame
/- THE CELL 'sum', in the pinned program and in every row, IS THE sha256 OF THE DUMP (.gsa) THAT YbulkcameProg.lean LOADS. Nothing in Lean hashes anything: it is a label: what it is worth is what the hold of that sum in a sandbox is worth. -/
noncomputable def Yba.pinned : Pinned := { name := "ybulkcame", sum := "036101da8f0b7e8a0195d640cab4d27f8acb5ec8d3119c108518f3a2f5806e2f", checked := Yba.checked }
namespace Rows
def none {H : Type} : Left H := { results := [], args := [] }

/-- 'cmd.LawS3839CShort': WHATEVER THE INPUT: true; the input reads as it did. -/
def lawS3839CShortSpec : ChangeSpec := { name := "lawS3839CShort", fn := fun _ => fun
  | [d1, d2, d3, d4] => { results := [.lit (.bool true)], args := [d1, d2, d3, d4] }
  | _ => none }
def lawS3839CShortRow : OpenClaim := { program := "ybulkcame", sum := "036101da8f0b7e8a0195d640cab4d27f8acb5ec8d3119c108518f3a2f5806e2f", func := "example.com/tellerbench/tellerbench/cmd.LawS3839CShort", spec := "lawS3839CShort", apart := false }
def LawS3839CShortSaid : Prop := lawS3839CShortRow.holds Yba.pinned (OpenSpec.ofChange lawS3839CShortSpec)

/-- ITS FALSE NEIGHBOUR: 'it returns false'. Refute it at one input. -/
def lawS3839CShortWrong : ChangeSpec := { name := "lawS3839CShort", fn := fun _ => fun
  | [d1, d2, d3, d4] => { results := [.lit (.bool false)], args := [d1, d2, d3, d4] }
  | _ => none }
def LawS3839CShortWrongFalsely : Prop := lawS3839CShortRow.holds Yba.pinned (OpenSpec.ofChange lawS3839CShortWrong)

end Rows
end Go.Proofs.Ybulkcame

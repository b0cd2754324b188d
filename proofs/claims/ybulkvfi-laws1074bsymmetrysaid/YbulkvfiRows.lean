/-
  No cell of these rows narrows 'for every input' (looked for: loops, veiled, ifaces, maps, wideKeys, modest, calm, conditions, laid).
  DERIVED. THE GIVEN ROWS OF THIS SEAT. 2 by the template 'for every input the law returns true; each argument reads behind the call as it read before'; 0 by the template 'total and deterministic' (their statements: YbulkvfiTotals.lean).
  GIVEN WITH THE SEED: the statements are not yours to turn. If you find one false, say at which input.
  Laid BY PROGRAM, IN A SANDBOX (cutbox-rows.mjs): the forced cells as the released guide's own fill.sh prints them over the translation 87a8625a45dc04ed… (all of the seat's roots in one cut). By AI agents, Wed Nov 11 2026. No macro, syntax, notation, axiom, sorry.
-/
import Derived.Test.YbulkvfiChecked
import GoSem.Claim
import GoSem.ClaimJoined
import GoSem.ClaimMapViews
import Derived.JoinedTies
import Derived.KernelRfl
namespace Go.Proofs.Ybulkvfi
/- THE CELL 'sum', in the pinned program and in every row, IS THE sha256 OF THE DUMP (.gsa) THAT YbulkvfiProg.lean LOADS. Nothing in Lean hashes anything: it is a label: what it is worth is what the hold of that sum in a sandbox is worth. -/
noncomputable def Yba.pinned : Pinned := { name := "ybulkvfi", sum := "87a8625a45dc04ed5b4685cb70e28de21328818862010f3360f5385d514c3efc", checked := Yba.checked }
namespace Rows
def none {H : Type} : Left H := { results := [], args := [] }

/-- 'exact.LawS1074BExact': WHATEVER THE INPUT: true; the input reads as it did. -/
def lawS1074BExactSpec : ChangeSpec := { name := "lawS1074BExact", fn := fun _ => fun
  | [d] => { results := [.lit (.bool true)], args := [d] }
  | _ => none }
def lawS1074BExactRow : OpenClaim := { program := "ybulkvfi", sum := "87a8625a45dc04ed5b4685cb70e28de21328818862010f3360f5385d514c3efc", func := "example.com/guishu/guishu/exact.LawS1074BExact", spec := "lawS1074BExact", apart := false }
def LawS1074BExactSaid : Prop := lawS1074BExactRow.holds Yba.pinned (OpenSpec.ofChange lawS1074BExactSpec)

/-- ITS FALSE NEIGHBOUR: 'it returns false'. Refute it at one input. -/
def lawS1074BExactWrong : ChangeSpec := { name := "lawS1074BExact", fn := fun _ => fun
  | [d] => { results := [.lit (.bool false)], args := [d] }
  | _ => none }
def LawS1074BExactWrongFalsely : Prop := lawS1074BExactRow.holds Yba.pinned (OpenSpec.ofChange lawS1074BExactWrong)

/-- 'exact.LawS1074BSymmetry': WHATEVER THE INPUT: true; the input reads as it did. -/
def lawS1074BSymmetrySpec : ChangeSpec := { name := "lawS1074BSymmetry", fn := fun _ => fun
  | [d] => { results := [.lit (.bool true)], args := [d] }
  | _ => none }
def lawS1074BSymmetryRow : OpenClaim := { program := "ybulkvfi", sum := "87a8625a45dc04ed5b4685cb70e28de21328818862010f3360f5385d514c3efc", func := "example.com/guishu/guishu/exact.LawS1074BSymmetry", spec := "lawS1074BSymmetry", apart := false }
def LawS1074BSymmetrySaid : Prop := lawS1074BSymmetryRow.holds Yba.pinned (OpenSpec.ofChange lawS1074BSymmetrySpec)

/-- ITS FALSE NEIGHBOUR: 'it returns false'. Refute it at one input. -/
def lawS1074BSymmetryWrong : ChangeSpec := { name := "lawS1074BSymmetry", fn := fun _ => fun
  | [d] => { results := [.lit (.bool false)], args := [d] }
  | _ => none }
def LawS1074BSymmetryWrongFalsely : Prop := lawS1074BSymmetryRow.holds Yba.pinned (OpenSpec.ofChange lawS1074BSymmetryWrong)

end Rows
end Go.Proofs.Ybulkvfi

/-
  No cell of these rows narrows 'for every input' (looked for: loops, veiled, ifaces, maps, wideKeys, modest, calm, conditions, laid).
  DERIVED. THE GIVEN ROWS OF THIS SEAT. 3 by the template 'for every input the law returns true; each argument reads behind the call as it read before'; 0 by the template 'total and deterministic' (their statements: YbulkvkeTotals.lean).
  GIVEN WITH THE SEED: the statements are not yours to turn. If you find one false, say at which input.
  Laid BY PROGRAM, IN A SANDBOX (cutbox-rows.mjs): the forced cells as the released guide's own fill.sh prints them over the translation ff87958d41514653… (all of the seat's roots in one cut). By AI agents, Wed Nov 11 2026. No macro, syntax, notation, axiom, sorry.
-/
import Derived.Test.YbulkvkeChecked
import GoSem.Claim
import GoSem.ClaimJoined
import GoSem.ClaimMapViews
import Derived.JoinedTies
import Derived.KernelRfl
namespace Go.Proofs.Ybulkvke
/- THE CELL 'sum', in the pinned program and in every row, IS THE sha256 OF THE DUMP (.gsa) THAT YbulkvkeProg.lean LOADS. Nothing in Lean hashes anything: it is a label: what it is worth is what the hold of that sum in a sandbox is worth. -/
noncomputable def Yba.pinned : Pinned := { name := "ybulkvke", sum := "ff87958d41514653b53caa1740bd50498d64504bb84a74a613e22d8d057d900b", checked := Yba.checked }
namespace Rows
def none {H : Type} : Left H := { results := [], args := [] }

/-- 'dihedra.LawS1083AWindow': WHATEVER THE INPUT: true; the input reads as it did. -/
def lawS1083AWindowSpec : ChangeSpec := { name := "lawS1083AWindow", fn := fun _ => fun
  | [d1, d2, d3, d4, d5, d6, d7] => { results := [.lit (.bool true)], args := [d1, d2, d3, d4, d5, d6, d7] }
  | _ => none }
def lawS1083AWindowRow : OpenClaim := { program := "ybulkvke", sum := "ff87958d41514653b53caa1740bd50498d64504bb84a74a613e22d8d057d900b", func := "example.com/dihedra/dihedra.LawS1083AWindow", spec := "lawS1083AWindow", apart := false }
def LawS1083AWindowSaid : Prop := lawS1083AWindowRow.holds Yba.pinned (OpenSpec.ofChange lawS1083AWindowSpec)

/-- ITS FALSE NEIGHBOUR: 'it returns false'. Refute it at one input. -/
def lawS1083AWindowWrong : ChangeSpec := { name := "lawS1083AWindow", fn := fun _ => fun
  | [d1, d2, d3, d4, d5, d6, d7] => { results := [.lit (.bool false)], args := [d1, d2, d3, d4, d5, d6, d7] }
  | _ => none }
def LawS1083AWindowWrongFalsely : Prop := lawS1083AWindowRow.holds Yba.pinned (OpenSpec.ofChange lawS1083AWindowWrong)

/-- 'dihedra.LawS1083BTerms': WHATEVER THE INPUT: true; the input reads as it did. -/
def lawS1083BTermsSpec : ChangeSpec := { name := "lawS1083BTerms", fn := fun _ => fun
  | [d] => { results := [.lit (.bool true)], args := [d] }
  | _ => none }
def lawS1083BTermsRow : OpenClaim := { program := "ybulkvke", sum := "ff87958d41514653b53caa1740bd50498d64504bb84a74a613e22d8d057d900b", func := "example.com/dihedra/dihedra.LawS1083BTerms", spec := "lawS1083BTerms", apart := false }
def LawS1083BTermsSaid : Prop := lawS1083BTermsRow.holds Yba.pinned (OpenSpec.ofChange lawS1083BTermsSpec)

/-- ITS FALSE NEIGHBOUR: 'it returns false'. Refute it at one input. -/
def lawS1083BTermsWrong : ChangeSpec := { name := "lawS1083BTerms", fn := fun _ => fun
  | [d] => { results := [.lit (.bool false)], args := [d] }
  | _ => none }
def LawS1083BTermsWrongFalsely : Prop := lawS1083BTermsRow.holds Yba.pinned (OpenSpec.ofChange lawS1083BTermsWrong)

/-- 'dihedra.LawS1083BInvertible': WHATEVER THE INPUT: true; the input reads as it did. -/
def lawS1083BInvertibleSpec : ChangeSpec := { name := "lawS1083BInvertible", fn := fun _ => fun
  | [d] => { results := [.lit (.bool true)], args := [d] }
  | _ => none }
def lawS1083BInvertibleRow : OpenClaim := { program := "ybulkvke", sum := "ff87958d41514653b53caa1740bd50498d64504bb84a74a613e22d8d057d900b", func := "example.com/dihedra/dihedra.LawS1083BInvertible", spec := "lawS1083BInvertible", apart := false }
def LawS1083BInvertibleSaid : Prop := lawS1083BInvertibleRow.holds Yba.pinned (OpenSpec.ofChange lawS1083BInvertibleSpec)

/-- ITS FALSE NEIGHBOUR: 'it returns false'. Refute it at one input. -/
def lawS1083BInvertibleWrong : ChangeSpec := { name := "lawS1083BInvertible", fn := fun _ => fun
  | [d] => { results := [.lit (.bool false)], args := [d] }
  | _ => none }
def LawS1083BInvertibleWrongFalsely : Prop := lawS1083BInvertibleRow.holds Yba.pinned (OpenSpec.ofChange lawS1083BInvertibleWrong)

end Rows
end Go.Proofs.Ybulkvke

/-
  No cell of these rows narrows 'for every input' (looked for: loops, veiled, ifaces, maps, wideKeys, modest, calm, conditions, laid).
  DERIVED. THE GIVEN ROWS OF THIS SEAT. 2 by the template 'for every input the law returns true; each argument reads behind the call as it read before'; 0 by the template 'total and deterministic' (their statements: YbulkvksTotals.lean).
  GIVEN WITH THE SEED: the statements are not yours to turn. If you find one false, say at which input.
  Laid BY PROGRAM, IN A SANDBOX (cutbox-rows.mjs): the forced cells as the released guide's own fill.sh prints them over the translation 786aeeee9b6e98ae… (all of the seat's roots in one cut). By AI agents, Wed Nov 11 2026. No macro, syntax, notation, axiom, sorry.
-/
import Derived.Test.YbulkvksChecked
import GoSem.Claim
import GoSem.ClaimJoined
import GoSem.ClaimMapViews
import Derived.JoinedTies
import Derived.KernelRfl
namespace Go.Proofs.Ybulkvks
/- THE CELL 'sum', in the pinned program and in every row, IS THE sha256 OF THE DUMP (.gsa) THAT YbulkvksProg.lean LOADS. Nothing in Lean hashes anything: it is a label: what it is worth is what the hold of that sum in a sandbox is worth. -/
noncomputable def Yba.pinned : Pinned := { name := "ybulkvks", sum := "786aeeee9b6e98aeb04c9ebf24e8229af6fdde01dd2fc7d3618016fdd384640c", checked := Yba.checked }
namespace Rows
def none {H : Type} : Left H := { results := [], args := [] }

/-- 'holdfast.LawS1084AQueueAhead': WHATEVER THE INPUT: true; the input reads as it did. -/
def lawS1084AQueueAheadSpec : ChangeSpec := { name := "lawS1084AQueueAhead", fn := fun _ => fun
  | [d1, d2, d3, d4, d5] => { results := [.lit (.bool true)], args := [d1, d2, d3, d4, d5] }
  | _ => none }
def lawS1084AQueueAheadRow : OpenClaim := { program := "ybulkvks", sum := "786aeeee9b6e98aeb04c9ebf24e8229af6fdde01dd2fc7d3618016fdd384640c", func := "example.com/holdfast/holdfast.LawS1084AQueueAhead", spec := "lawS1084AQueueAhead", unfollowed := true, recurses := true, apart := false }
def LawS1084AQueueAheadSaid : Prop := lawS1084AQueueAheadRow.holds Yba.pinned (OpenSpec.ofChange lawS1084AQueueAheadSpec)

/-- ITS FALSE NEIGHBOUR: 'it returns false'. Refute it at one input. -/
def lawS1084AQueueAheadWrong : ChangeSpec := { name := "lawS1084AQueueAhead", fn := fun _ => fun
  | [d1, d2, d3, d4, d5] => { results := [.lit (.bool false)], args := [d1, d2, d3, d4, d5] }
  | _ => none }
def LawS1084AQueueAheadWrongFalsely : Prop := lawS1084AQueueAheadRow.holds Yba.pinned (OpenSpec.ofChange lawS1084AQueueAheadWrong)

/-- 'holdfast.LawS1084BQueueOrder': WHATEVER THE INPUT: true; the input reads as it did. -/
def lawS1084BQueueOrderSpec : ChangeSpec := { name := "lawS1084BQueueOrder", fn := fun _ => fun
  | [d] => { results := [.lit (.bool true)], args := [d] }
  | _ => none }
def lawS1084BQueueOrderRow : OpenClaim := { program := "ybulkvks", sum := "786aeeee9b6e98aeb04c9ebf24e8229af6fdde01dd2fc7d3618016fdd384640c", func := "example.com/holdfast/holdfast.LawS1084BQueueOrder", spec := "lawS1084BQueueOrder", inPlace := ["slices.overlaps[*example.com/holdfast/holdfast.lock]"], unfollowed := true, recurses := true, apart := false }
def LawS1084BQueueOrderSaid : Prop := lawS1084BQueueOrderRow.holds Yba.pinned (OpenSpec.ofChange lawS1084BQueueOrderSpec)

/-- ITS FALSE NEIGHBOUR: 'it returns false'. Refute it at one input. -/
def lawS1084BQueueOrderWrong : ChangeSpec := { name := "lawS1084BQueueOrder", fn := fun _ => fun
  | [d] => { results := [.lit (.bool false)], args := [d] }
  | _ => none }
def LawS1084BQueueOrderWrongFalsely : Prop := lawS1084BQueueOrderRow.holds Yba.pinned (OpenSpec.ofChange lawS1084BQueueOrderWrong)

end Rows
end Go.Proofs.Ybulkvks

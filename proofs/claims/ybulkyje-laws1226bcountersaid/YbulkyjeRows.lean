/-
  No cell of these rows narrows 'for every input' (looked for: loops, veiled, ifaces, maps, wideKeys, modest, calm, conditions, laid).
  DERIVED. THE GIVEN ROWS OF THIS SEAT. 1 by the template 'for every input the law returns true; each argument reads behind the call as it read before'; 0 by the template 'total and deterministic' (their statements: YbulkyjeTotals.lean).
  GIVEN WITH THE SEED: the statements are not yours to turn. If you find one false, say at which input.
  Laid BY PROGRAM, IN A SANDBOX (cutbox-rows.mjs): the forced cells as the released guide's own fill.sh prints them over the translation 2502de8aa15cadd7… (all of the seat's roots in one cut). By AI agents, Wed Nov 11 2026. No macro, syntax, notation, axiom, sorry.
-/
import Derived.Test.YbulkyjeChecked
import GoSem.Claim
import GoSem.ClaimJoined
import GoSem.ClaimMapViews
import Derived.JoinedTies
import Derived.KernelRfl
namespace Go.Proofs.Ybulkyje
/- THE CELL 'sum', in the pinned program and in every row, IS THE sha256 OF THE DUMP (.gsa) THAT YbulkyjeProg.lean LOADS. Nothing in Lean hashes anything: it is a label: what it is worth is what the hold of that sum in a sandbox is worth. -/
noncomputable def Yba.pinned : Pinned := { name := "ybulkyje", sum := "2502de8aa15cadd71b03ed96605508e552b865b0550abb05708d79061700c75d", checked := Yba.checked }
namespace Rows
def none {H : Type} : Left H := { results := [], args := [] }

/-- 'causet.LawS1226BCounter': WHATEVER THE INPUT: true; the input reads as it did. -/
def lawS1226BCounterSpec : ChangeSpec := { name := "lawS1226BCounter", fn := fun _ => fun
  | [d1, d2, d3] => { results := [.lit (.bool true)], args := [d1, d2, d3] }
  | _ => none }
def lawS1226BCounterRow : OpenClaim := { program := "ybulkyje", sum := "2502de8aa15cadd71b03ed96605508e552b865b0550abb05708d79061700c75d", func := "example.com/causet/causet.LawS1226BCounter", spec := "lawS1226BCounter", recurses := true, apart := false }
def LawS1226BCounterSaid : Prop := lawS1226BCounterRow.holds Yba.pinned (OpenSpec.ofChange lawS1226BCounterSpec)

/-- ITS FALSE NEIGHBOUR: 'it returns false'. Refute it at one input. -/
def lawS1226BCounterWrong : ChangeSpec := { name := "lawS1226BCounter", fn := fun _ => fun
  | [d1, d2, d3] => { results := [.lit (.bool false)], args := [d1, d2, d3] }
  | _ => none }
def LawS1226BCounterWrongFalsely : Prop := lawS1226BCounterRow.holds Yba.pinned (OpenSpec.ofChange lawS1226BCounterWrong)

end Rows
end Go.Proofs.Ybulkyje

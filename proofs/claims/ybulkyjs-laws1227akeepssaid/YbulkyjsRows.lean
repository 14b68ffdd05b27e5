/-
  No cell of these rows narrows 'for every input' (looked for: loops, veiled, ifaces, maps, wideKeys, modest, calm, conditions, laid).
  DERIVED. THE GIVEN ROWS OF THIS SEAT. 2 by the template 'for every input the law returns true; each argument reads behind the call as it read before'; 0 by the template 'total and deterministic' (their statements: YbulkyjsTotals.lean).
  GIVEN WITH THE SEED: the statements are not yours to turn. If you find one false, say at which input.
  Laid BY PROGRAM, IN A SANDBOX (cutbox-rows.mjs): the forced cells as the released guide's own fill.sh prints them over the translation c92987dd29b738fc… (all of the seat's roots in one cut). By AI agents, Wed Nov 11 2026. No macro, syntax, notation, axiom, sorry.
-/
import Derived.Test.YbulkyjsChecked
import GoSem.Claim
import GoSem.ClaimJoined
import GoSem.ClaimMapViews
import Derived.JoinedTies
import Derived.KernelRfl
namespace Go.Proofs.Ybulkyjs
/- THE CELL 'sum', in the pinned program and in every row, IS THE sha256 OF THE DUMP (.gsa) THAT YbulkyjsProg.lean LOADS. Nothing in Lean hashes anything: it is a label: what it is worth is what the hold of that sum in a sandbox is worth. -/
noncomputable def Yba.pinned : Pinned := { name := "ybulkyjs", sum := "c92987dd29b738fc8b964a066a3af02670c34c2886fe226ad73f57b0721823e7", checked := Yba.checked }
namespace Rows
def none {H : Type} : Left H := { results := [], args := [] }

/-- 'agree.LawS1227AFixed': WHATEVER THE INPUT: true; the input reads as it did. -/
def lawS1227AFixedSpec : ChangeSpec := { name := "lawS1227AFixed", fn := fun _ => fun
  | [d1, d2, d3, d4, d5, d6] => { results := [.lit (.bool true)], args := [d1, d2, d3, d4, d5, d6] }
  | _ => none }
def lawS1227AFixedRow : OpenClaim := { program := "ybulkyjs", sum := "c92987dd29b738fc8b964a066a3af02670c34c2886fe226ad73f57b0721823e7", func := "example.com/anamnesis/anamnesis/internal/agree.LawS1227AFixed", spec := "lawS1227AFixed", plainKeys := false, apart := false }
def LawS1227AFixedSaid : Prop := lawS1227AFixedRow.holds Yba.pinned (OpenSpec.ofChange lawS1227AFixedSpec)

/-- ITS FALSE NEIGHBOUR: 'it returns false'. Refute it at one input. -/
def lawS1227AFixedWrong : ChangeSpec := { name := "lawS1227AFixed", fn := fun _ => fun
  | [d1, d2, d3, d4, d5, d6] => { results := [.lit (.bool false)], args := [d1, d2, d3, d4, d5, d6] }
  | _ => none }
def LawS1227AFixedWrongFalsely : Prop := lawS1227AFixedRow.holds Yba.pinned (OpenSpec.ofChange lawS1227AFixedWrong)

/-- 'agree.LawS1227AKeeps': WHATEVER THE INPUT: true; the input reads as it did. -/
def lawS1227AKeepsSpec : ChangeSpec := { name := "lawS1227AKeeps", fn := fun _ => fun
  | [d1, d2, d3] => { results := [.lit (.bool true)], args := [d1, d2, d3] }
  | _ => none }
def lawS1227AKeepsRow : OpenClaim := { program := "ybulkyjs", sum := "c92987dd29b738fc8b964a066a3af02670c34c2886fe226ad73f57b0721823e7", func := "example.com/anamnesis/anamnesis/internal/agree.LawS1227AKeeps", spec := "lawS1227AKeeps", plainKeys := false, apart := false }
def LawS1227AKeepsSaid : Prop := lawS1227AKeepsRow.holds Yba.pinned (OpenSpec.ofChange lawS1227AKeepsSpec)

/-- ITS FALSE NEIGHBOUR: 'it returns false'. Refute it at one input. -/
def lawS1227AKeepsWrong : ChangeSpec := { name := "lawS1227AKeeps", fn := fun _ => fun
  | [d1, d2, d3] => { results := [.lit (.bool false)], args := [d1, d2, d3] }
  | _ => none }
def LawS1227AKeepsWrongFalsely : Prop := lawS1227AKeepsRow.holds Yba.pinned (OpenSpec.ofChange lawS1227AKeepsWrong)

end Rows
end Go.Proofs.Ybulkyjs

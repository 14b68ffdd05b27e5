/-
  No cell of these rows narrows 'for every input' (looked for: loops, veiled, ifaces, maps, wideKeys, modest, calm, conditions, laid).
  DERIVED. THE GIVEN ROWS OF THIS SEAT. 1 by the template 'for every input the law returns true; each argument reads behind the call as it read before'; 0 by the template 'total and deterministic' (their statements: YbulkyfyTotals.lean).
  GIVEN WITH THE SEED: the statements are not yours to turn. If you find one false, say at which input.
  Laid BY PROGRAM, IN A SANDBOX (cutbox-rows.mjs): the forced cells as the released guide's own fill.sh prints them over the translation 187482cc368b613d… (all of the seat's roots in one cut). By AI agents, Wed Nov 11 2026. No macro, syntax, notation, axiom, sorry.
-/
import Derived.Test.YbulkyfyChecked
import GoSem.Claim
import GoSem.ClaimJoined
import GoSem.ClaimMapViews
import Derived.JoinedTies
import Derived.KernelRfl
namespace Go.Proofs.Ybulkyfy
/- THE CELL 'sum', in the pinned program and in every row, IS THE sha256 OF THE DUMP (.gsa) THAT YbulkyfyProg.lean LOADS. Nothing in Lean hashes anything: it is a label: what it is worth is what the hold of that sum in a sandbox is worth. -/
noncomputable def Yba.pinned : Pinned := { name := "ybulkyfy", sum := "187482cc368b613de2f905f231971acb70af46d4e148059d1980b3642e7b5884", checked := Yba.checked }
namespace Rows
def none {H : Type} : Left H := { results := [], args := [] }

/-- 'proviso.LawS1220CModel': WHATEVER THE INPUT: true; the input reads as it did. -/
def lawS1220CModelSpec : ChangeSpec := { name := "lawS1220CModel", fn := fun _ => fun
  | [d1, d2, d3] => { results := [.lit (.bool true)], args := [d1, d2, d3] }
  | _ => none }
def lawS1220CModelRow : OpenClaim := { program := "ybulkyfy", sum := "187482cc368b613de2f905f231971acb70af46d4e148059d1980b3642e7b5884", func := "example.com/proviso/proviso.LawS1220CModel", spec := "lawS1220CModel", plainKeys := false, apart := false }
def LawS1220CModelSaid : Prop := lawS1220CModelRow.holds Yba.pinned (OpenSpec.ofChange lawS1220CModelSpec)

/-- ITS FALSE NEIGHBOUR: 'it returns false'. Refute it at one input. -/
def lawS1220CModelWrong : ChangeSpec := { name := "lawS1220CModel", fn := fun _ => fun
  | [d1, d2, d3] => { results := [.lit (.bool false)], args := [d1, d2, d3] }
  | _ => none }
def LawS1220CModelWrongFalsely : Prop := lawS1220CModelRow.holds Yba.pinned (OpenSpec.ofChange lawS1220CModelWrong)

end Rows
end Go.Proofs.Ybulkyfy

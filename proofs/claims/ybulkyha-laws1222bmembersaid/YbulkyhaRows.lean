/-
  No cell of these rows narrows 'for every input' (looked for: loops, veiled, ifaces, maps, wideKeys, modest, calm, conditions, laid).
  DERIVED. THE GIVEN ROWS OF THIS SEAT. 2 by the template 'for every input the law returns true; each argument reads behind the call as it read before'; 0 by the template 'total and deterministic' (their statements: YbulkyhaTotals.lean).
  GIVEN WITH THE SEED: the statements are not yours to turn. If you find one false, say at which input.
  Laid BY PROGRAM, IN A SANDBOX (cutbox-rows.mjs): the forced cells as the released guide's own fill.sh prints them over the translation aef821ff79433943… (all of the seat's roots in one cut). By AI agents, Wed Nov 11 2026. No macro, syntax, notation, axiom, sorry.
-/
import Derived.Test.YbulkyhaChecked
import GoSem.Claim
import GoSem.ClaimJoined
import GoSem.ClaimMapViews
import Derived.JoinedTies
import Derived.KernelRfl
namespace Go.Proofs.Ybulkyha
/- THE CELL 'sum', in the pinned program and in every row, IS THE sha256 OF THE DUMP (.gsa) THAT YbulkyhaProg.lean LOADS. Nothing in Lean hashes anything: it is a label: what it is worth is what the hold of that sum in a sandbox is worth. -/
noncomputable def Yba.pinned : Pinned := { name := "ybulkyha", sum := "aef821ff79433943c643d062d0e10ba732dd22cc240d83d0f631282f899ca819", checked := Yba.checked }
namespace Rows
def none {H : Type} : Left H := { results := [], args := [] }

/-- 'engine.LawS1222BMember': WHATEVER THE INPUT: true; the input reads as it did. -/
def lawS1222BMemberSpec : ChangeSpec := { name := "lawS1222BMember", fn := fun _ => fun
  | [d1, d2, d3, d4] => { results := [.lit (.bool true)], args := [d1, d2, d3, d4] }
  | _ => none }
def lawS1222BMemberRow : OpenClaim := { program := "ybulkyha", sum := "aef821ff79433943c643d062d0e10ba732dd22cc240d83d0f631282f899ca819", func := "example.com/antecedent/antecedent/internal/engine.LawS1222BMember", spec := "lawS1222BMember", apart := false }
def LawS1222BMemberSaid : Prop := lawS1222BMemberRow.holds Yba.pinned (OpenSpec.ofChange lawS1222BMemberSpec)

/-- ITS FALSE NEIGHBOUR: 'it returns false'. Refute it at one input. -/
def lawS1222BMemberWrong : ChangeSpec := { name := "lawS1222BMember", fn := fun _ => fun
  | [d1, d2, d3, d4] => { results := [.lit (.bool false)], args := [d1, d2, d3, d4] }
  | _ => none }
def LawS1222BMemberWrongFalsely : Prop := lawS1222BMemberRow.holds Yba.pinned (OpenSpec.ofChange lawS1222BMemberWrong)

/-- 'engine.LawS1222BHanded': WHATEVER THE INPUT: true; the input reads as it did. -/
def lawS1222BHandedSpec : ChangeSpec := { name := "lawS1222BHanded", fn := fun _ => fun
  | [d1, d2, d3, d4, d5] => { results := [.lit (.bool true)], args := [d1, d2, d3, d4, d5] }
  | _ => none }
def lawS1222BHandedRow : OpenClaim := { program := "ybulkyha", sum := "aef821ff79433943c643d062d0e10ba732dd22cc240d83d0f631282f899ca819", func := "example.com/antecedent/antecedent/internal/engine.LawS1222BHanded", spec := "lawS1222BHanded", apart := false }
def LawS1222BHandedSaid : Prop := lawS1222BHandedRow.holds Yba.pinned (OpenSpec.ofChange lawS1222BHandedSpec)

/-- ITS FALSE NEIGHBOUR: 'it returns false'. Refute it at one input. -/
def lawS1222BHandedWrong : ChangeSpec := { name := "lawS1222BHanded", fn := fun _ => fun
  | [d1, d2, d3, d4, d5] => { results := [.lit (.bool false)], args := [d1, d2, d3, d4, d5] }
  | _ => none }
def LawS1222BHandedWrongFalsely : Prop := lawS1222BHandedRow.holds Yba.pinned (OpenSpec.ofChange lawS1222BHandedWrong)

end Rows
end Go.Proofs.Ybulkyha

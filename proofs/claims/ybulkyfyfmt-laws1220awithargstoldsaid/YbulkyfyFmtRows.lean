/-
  No cell of these rows narrows 'for every input' (looked for: loops, veiled, ifaces, maps, wideKeys, modest, calm, conditions, laid).
  DERIVED. THE GIVEN ROWS OF THIS SEAT. 2 by the template 'for every input the law returns true; each argument reads behind the call as it read before'; 0 by the template 'total and deterministic' (their statements: YbulkyfyFmtTotals.lean).
  GIVEN WITH THE SEED: the statements are not yours to turn. If you find one false, say at which input.
  Laid BY PROGRAM, IN A SANDBOX (cutbox-rows.mjs): the forced cells as the released guide's own fill.sh prints them over the translation 3139116aca36d9e8… (all of the seat's roots in one cut). By AI agents, Wed Nov 11 2026. No macro, syntax, notation, axiom, sorry.
-/
import Derived.Test.YbulkyfyFmtChecked
import GoSem.Claim
import GoSem.ClaimJoined
import GoSem.ClaimMapViews
import Derived.JoinedTies
import Derived.KernelRfl
namespace Go.Proofs.YbulkyfyFmt
/- THE CELL 'sum', in the pinned program and in every row, IS THE sha256 OF THE DUMP (.gsa) THAT YbulkyfyFmtProg.lean LOADS. Nothing in Lean hashes anything: it is a label: what it is worth is what the hold of that sum in a sandbox is worth. -/
noncomputable def Ybaf.pinned : Pinned := { name := "ybulkyfyfmt", sum := "3139116aca36d9e88e72e90f8b3643142b122119dd6b2842726c8cf5bbafe019", checked := Ybaf.checked }
namespace Rows
def none {H : Type} : Left H := { results := [], args := [] }

/-- 'proviso.LawS1220ANoArgs': WHATEVER THE INPUT: true; the input reads as it did. -/
def lawS1220ANoArgsSpec : ChangeSpec := { name := "lawS1220ANoArgs", fn := fun _ => fun
  | [d1, d2] => { results := [.lit (.bool true)], args := [d1, d2] }
  | _ => none }
def lawS1220ANoArgsRow : OpenClaim := { program := "ybulkyfyfmt", sum := "3139116aca36d9e88e72e90f8b3643142b122119dd6b2842726c8cf5bbafe019", func := "example.com/proviso/proviso.LawS1220ANoArgs", spec := "lawS1220ANoArgs", stops := ["fmt.Sprint, its operands' methods called"], inPlace := ["fmt.Sprint", "internal/abi.NoEscape", "internal/bytealg.MakeNoZero"], unfollowed := true, recurses := true, apart := false }
/-- NO THEOREM (fmt's text is open here; it may be false): for the released tool's asking of the row's closed facts alone. THE STATEMENT IS 'LawS1220ANoArgsToldSaid' (YbulkyfyFmtCards.lean). -/
def LawS1220ANoArgsFormAsk : Prop := lawS1220ANoArgsRow.holds Ybaf.pinned (OpenSpec.ofChange lawS1220ANoArgsSpec)

/-- ITS FALSE NEIGHBOUR: 'it returns false'. Refute it at one input. -/
def lawS1220ANoArgsWrong : ChangeSpec := { name := "lawS1220ANoArgs", fn := fun _ => fun
  | [d1, d2] => { results := [.lit (.bool false)], args := [d1, d2] }
  | _ => none }
def LawS1220ANoArgsWrongFormAsk : Prop := lawS1220ANoArgsRow.holds Ybaf.pinned (OpenSpec.ofChange lawS1220ANoArgsWrong)

/-- 'proviso.LawS1220AWithArgs': WHATEVER THE INPUT: true; the input reads as it did. -/
def lawS1220AWithArgsSpec : ChangeSpec := { name := "lawS1220AWithArgs", fn := fun _ => fun
  | [d1, d2, d3] => { results := [.lit (.bool true)], args := [d1, d2, d3] }
  | _ => none }
def lawS1220AWithArgsRow : OpenClaim := { program := "ybulkyfyfmt", sum := "3139116aca36d9e88e72e90f8b3643142b122119dd6b2842726c8cf5bbafe019", func := "example.com/proviso/proviso.LawS1220AWithArgs", spec := "lawS1220AWithArgs", stops := ["fmt.Sprint, its operands' methods called"], inPlace := ["fmt.Sprint", "internal/abi.NoEscape", "internal/bytealg.MakeNoZero"], unfollowed := true, recurses := true, apart := false }
/-- NO THEOREM (fmt's text is open here; it may be false): for the released tool's asking of the row's closed facts alone. THE STATEMENT IS 'LawS1220AWithArgsToldSaid' (YbulkyfyFmtCards.lean). -/
def LawS1220AWithArgsFormAsk : Prop := lawS1220AWithArgsRow.holds Ybaf.pinned (OpenSpec.ofChange lawS1220AWithArgsSpec)

/-- ITS FALSE NEIGHBOUR: 'it returns false'. Refute it at one input. -/
def lawS1220AWithArgsWrong : ChangeSpec := { name := "lawS1220AWithArgs", fn := fun _ => fun
  | [d1, d2, d3] => { results := [.lit (.bool false)], args := [d1, d2, d3] }
  | _ => none }
def LawS1220AWithArgsWrongFormAsk : Prop := lawS1220AWithArgsRow.holds Ybaf.pinned (OpenSpec.ofChange lawS1220AWithArgsWrong)

end Rows
end Go.Proofs.YbulkyfyFmt

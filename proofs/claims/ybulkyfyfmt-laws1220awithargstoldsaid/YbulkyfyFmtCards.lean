/-
  DERIVED. GIVEN WITH THE SEED: THE CARDS: each row of YbulkyfyFmtRows.lean that lists a variable, with what it lists TIED to the program's text (the seventh form; the later family's looks); each row that meets fmt, with fmt's text TOLD by the authors' own Lean function (tested against real Go, not proved from fmt's source: count such statements apart). THE CARD IS WHAT COUNTS. Prove the row's statement (the work); the ties are given (YbulkyfyFmtTie.lean); close each card by the builder's one call (the guide's Derived/Test/ToyasCard.lean, 'card_holds'). Laid BY PROGRAM, IN A SANDBOX (cutbox-door.mjs). By AI agents, Wed Nov 11 2026. No macro, syntax, notation, axiom, sorry.
-/
import Derived.Test.YbulkyfyFmtRows
import GoSem.ClaimSeven
namespace Go.Proofs.YbulkyfyFmt
namespace Rows

/-- THE TOLD CARD OF 'proviso.LawS1220ANoArgs'. -/
def lawS1220ANoArgsCard : Claim7 := { stood := { row := lawS1220ANoArgsRow, standIns := [], harness := (true, "30ebebdc8dd131cc5131184ab5ed9ec33d61e25c6de6c8ca5c9be4a98a96ad7d"), looks := false }, told := true, goes := false }
def LawS1220ANoArgsToldSaid : Prop := Claim7.holds Ybaf.pinned (.plain (OpenSpec.ofChange lawS1220ANoArgsSpec)) lawS1220ANoArgsCard
/-- ITS FALSE NEIGHBOUR. Refute it at one input. -/
def LawS1220ANoArgsToldWrongFalsely : Prop := Claim7.holds Ybaf.pinned (.plain (OpenSpec.ofChange lawS1220ANoArgsWrong)) lawS1220ANoArgsCard

/-- THE TOLD CARD OF 'proviso.LawS1220AWithArgs'. -/
def lawS1220AWithArgsCard : Claim7 := { stood := { row := lawS1220AWithArgsRow, standIns := [], harness := (true, "30ebebdc8dd131cc5131184ab5ed9ec33d61e25c6de6c8ca5c9be4a98a96ad7d"), looks := false }, told := true, goes := false }
def LawS1220AWithArgsToldSaid : Prop := Claim7.holds Ybaf.pinned (.plain (OpenSpec.ofChange lawS1220AWithArgsSpec)) lawS1220AWithArgsCard
/-- ITS FALSE NEIGHBOUR. Refute it at one input. -/
def LawS1220AWithArgsToldWrongFalsely : Prop := Claim7.holds Ybaf.pinned (.plain (OpenSpec.ofChange lawS1220AWithArgsWrong)) lawS1220AWithArgsCard
end Rows
end Go.Proofs.YbulkyfyFmt

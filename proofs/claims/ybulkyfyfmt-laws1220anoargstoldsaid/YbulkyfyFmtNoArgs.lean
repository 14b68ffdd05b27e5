/-
  LawS1220ANoArgs (function 3): the walk. fmt is never come to: a step without drawings shows as its name alone.
-/
import Derived.Test.YbulkyfyFmtRows
import Derived.WalkKit
import Derived.WalkSpells
import Derived.WalkLawsBesides
namespace Go.Proofs.YbulkyfyFmt
open Go.RowKit

set_option maxHeartbeats 400000 in
theorem string_none (nm : ByteArray) (a : Option Addr) (cap : Nat) (w : World) :
    Calls Ybaf.prog 5 #[.agg #[.string nm, .slice a 0 cap]] w fun e w' => e = .returned (.string nm) ∧ Below w.heap.size w w' := by
  go_enter Ybaf.func5, Ybaf.ntmps5
  go_wp2
  go_ret
  exact ⟨rfl, (Below.refl _ _).alloc (Nat.le_refl _) _⟩

set_option maxHeartbeats 400000 in
theorem noargs_any (nm : ByteArray) (b : Bool) (w : World) :
    Calls Ybaf.prog 3 #[.string nm, .bool b] w fun e w' => e = .returned (.bool true) ∧ Below w.heap.size w w' := by
  cases b with
  | true =>
    go_enter Ybaf.func3, Ybaf.ntmps3
    go_wp2_with (go_at_call 5; refine (string_none _ _ _ _).mono ?_; rintro e w1 ⟨rfl, hb⟩)
    go_ret
    exact ⟨rfl, (((Below.refl _ _).alloc (Nat.le_refl _) _).alloc (by simp) _).trans (hb.mono (by simp; omega))⟩
  | false =>
    go_enter Ybaf.func3, Ybaf.ntmps3
    go_wp2_with (go_at_call 5; refine (string_none _ _ _ _).mono ?_; rintro e w1 ⟨rfl, hb⟩)
    go_ret
    exact ⟨rfl, ((Below.refl _ _).alloc (Nat.le_refl _) _).trans (hb.mono (by simp))⟩

end Go.Proofs.YbulkyfyFmt

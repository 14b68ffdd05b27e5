/-
  LawS1227AFixed (function 3), the callee 'fixed' walked in place: the walks, one for each way through.
-/
import Derived.Test.YbulkyjsKeeps
namespace Go.Proofs.Ybulkyjs
open Go.RowKit

theorem nil48 (w : World) : (binOp .eql 48 (.pointer none) (.pointer none)).run Yba.prog w = .ok (.bool true) w := run_eql_pointer_nil w 48 none (by kernel_rfl)
theorem nil23 (w : World) : (binOp .eql 23 (.pointer none) (.pointer none)).run Yba.prog w = .ok (.bool true) w := run_eql_pointer_nil w 23 none (by kernel_rfl)
/-- The field startedBy.. of a new Replica is nil. -/
theorem z72 (h : 72 < Yba.zeroCells75.size) : Yba.zeroCells75[72] = .pointer none := by kernel_rfl
attribute [local go_sem] neq48 neq76 neq23 eql23 nil48 nil23 z72

set_option maxHeartbeats 800000 in
set_option maxRecDepth 100000 in
set_option linter.unusedVariables false in
theorem fixed_000 (a0 a1 a2 : Int) (w : World) :
    Calls Yba.prog 3 #[.bool false, .bool false, .bool false, .int .u64 a0, .int .u64 a1, .int .u64 a2] w fun e w' => e = .returned (.bool true) ∧ Grown w w' := by
  go_enter Yba.func3, Yba.ntmps3
  go_wp2
  go_ret
  exact ⟨rfl, by repeat (first | exact Grown.refl _ | apply Grown.drew | apply Grown.alloc)⟩

set_option maxHeartbeats 800000 in
set_option maxRecDepth 100000 in
set_option linter.unusedVariables false in
theorem fixed_001 (a0 a1 a2 : Int) (w : World) :
    Calls Yba.prog 3 #[.bool false, .bool false, .bool true, .int .u64 a0, .int .u64 a1, .int .u64 a2] w fun e w' => e = .returned (.bool true) ∧ Grown w w' := by
  go_enter Yba.func3, Yba.ntmps3
  go_wp2
  go_ret
  exact ⟨rfl, by repeat (first | exact Grown.refl _ | apply Grown.drew | apply Grown.alloc)⟩

set_option maxHeartbeats 800000 in
set_option maxRecDepth 100000 in
set_option linter.unusedVariables false in
theorem fixed_010 (a0 a1 a2 : Int) (w : World) :
    Calls Yba.prog 3 #[.bool false, .bool true, .bool false, .int .u64 a0, .int .u64 a1, .int .u64 a2] w fun e w' => e = .returned (.bool true) ∧ Grown w w' := by
  go_enter Yba.func3, Yba.ntmps3
  go_wp2
  go_ret
  exact ⟨rfl, by repeat (first | exact Grown.refl _ | apply Grown.drew | apply Grown.alloc)⟩

set_option maxHeartbeats 800000 in
set_option maxRecDepth 100000 in
set_option linter.unusedVariables false in
theorem fixed_011 (a0 a1 a2 : Int) (w : World) :
    Calls Yba.prog 3 #[.bool false, .bool true, .bool true, .int .u64 a0, .int .u64 a1, .int .u64 a2] w fun e w' => e = .returned (.bool true) ∧ Grown w w' := by
  go_enter Yba.func3, Yba.ntmps3
  go_wp2
  go_ret
  exact ⟨rfl, by repeat (first | exact Grown.refl _ | apply Grown.drew | apply Grown.alloc)⟩

set_option maxHeartbeats 800000 in
set_option maxRecDepth 100000 in
set_option linter.unusedVariables false in
theorem fixed_100e (a0 a2 : Int) (w : World) :
    Calls Yba.prog 3 #[.bool true, .bool false, .bool false, .int .u64 a0, .int .u64 a0, .int .u64 a2] w fun e w' => e = .returned (.bool true) ∧ Grown w w' := by
  go_enter Yba.func3, Yba.ntmps3
  go_wp2
  go_ret
  exact ⟨rfl, by repeat (first | exact Grown.refl _ | apply Grown.drew | apply Grown.alloc)⟩

set_option maxHeartbeats 800000 in
set_option maxRecDepth 100000 in
set_option linter.unusedVariables false in
theorem fixed_100n (a0 a1 a2 : Int) (w : World) (h1 : (a0 == a1) = false) (h2 : (a1 == a0) = false) :
    Calls Yba.prog 3 #[.bool true, .bool false, .bool false, .int .u64 a0, .int .u64 a1, .int .u64 a2] w fun e w' => e = .returned (.bool true) ∧ Grown w w' := by
  go_enter Yba.func3, Yba.ntmps3
  go_wp2
  go_ret
  exact ⟨rfl, by repeat (first | exact Grown.refl _ | apply Grown.drew | apply Grown.alloc)⟩

set_option maxHeartbeats 800000 in
set_option maxRecDepth 100000 in
set_option linter.unusedVariables false in
theorem fixed_101 (a0 a1 a2 : Int) (w : World) :
    Calls Yba.prog 3 #[.bool true, .bool false, .bool true, .int .u64 a0, .int .u64 a1, .int .u64 a2] w fun e w' => e = .returned (.bool true) ∧ Grown w w' := by
  go_enter Yba.func3, Yba.ntmps3
  go_wp2
  go_ret
  exact ⟨rfl, by repeat (first | exact Grown.refl _ | apply Grown.drew | apply Grown.alloc)⟩

set_option maxHeartbeats 800000 in
set_option maxRecDepth 100000 in
set_option linter.unusedVariables false in
theorem fixed_110e (a0 a2 : Int) (w : World) :
    Calls Yba.prog 3 #[.bool true, .bool true, .bool false, .int .u64 a0, .int .u64 a0, .int .u64 a2] w fun e w' => e = .returned (.bool true) ∧ Grown w w' := by
  go_enter Yba.func3, Yba.ntmps3
  go_wp2
  go_ret
  exact ⟨rfl, by repeat (first | exact Grown.refl _ | apply Grown.drew | apply Grown.alloc)⟩

set_option maxHeartbeats 800000 in
set_option maxRecDepth 100000 in
set_option linter.unusedVariables false in
theorem fixed_110n (a0 a1 a2 : Int) (w : World) (h1 : (a0 == a1) = false) (h2 : (a1 == a0) = false) :
    Calls Yba.prog 3 #[.bool true, .bool true, .bool false, .int .u64 a0, .int .u64 a1, .int .u64 a2] w fun e w' => e = .returned (.bool true) ∧ Grown w w' := by
  go_enter Yba.func3, Yba.ntmps3
  go_wp2
  go_ret
  exact ⟨rfl, by repeat (first | exact Grown.refl _ | apply Grown.drew | apply Grown.alloc)⟩

set_option maxHeartbeats 800000 in
set_option maxRecDepth 100000 in
set_option linter.unusedVariables false in
theorem fixed_111 (a0 a1 a2 : Int) (w : World) :
    Calls Yba.prog 3 #[.bool true, .bool true, .bool true, .int .u64 a0, .int .u64 a1, .int .u64 a2] w fun e w' => e = .returned (.bool true) ∧ Grown w w' := by
  go_enter Yba.func3, Yba.ntmps3
  go_wp2
  go_ret
  exact ⟨rfl, by repeat (first | exact Grown.refl _ | apply Grown.drew | apply Grown.alloc)⟩

theorem fixed_any (b0 b1 b2 : Bool) (a0 a1 a2 : Int) (w : World) :
    Calls Yba.prog 3 #[.bool b0, .bool b1, .bool b2, .int .u64 a0, .int .u64 a1, .int .u64 a2] w fun e w' => e = .returned (.bool true) ∧ Grown w w' := by
  cases b0 <;> cases b1 <;> cases b2
  · exact fixed_000 a0 a1 a2 w
  · exact fixed_001 a0 a1 a2 w
  · exact fixed_010 a0 a1 a2 w
  · exact fixed_011 a0 a1 a2 w
  · by_cases h : a0 = a1
    · subst h
      exact fixed_100e a0 a2 w
    · exact fixed_100n a0 a1 a2 w (by simpa using h) (by simpa using fun e => h e.symm)
  · exact fixed_101 a0 a1 a2 w
  · by_cases h : a0 = a1
    · subst h
      exact fixed_110e a0 a2 w
    · exact fixed_110n a0 a1 a2 w (by simpa using h) (by simpa using fun e => h e.symm)
  · exact fixed_111 a0 a1 a2 w

end Go.Proofs.Ybulkyjs

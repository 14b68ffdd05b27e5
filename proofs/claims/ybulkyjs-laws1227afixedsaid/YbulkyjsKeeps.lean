/-
  LawS1227AKeeps (function 4), the callee 'fixed' walked in place: the walk.
-/
import Derived.Test.YbulkyjsRows
import Derived.WalkKit
import Derived.WalkSpells
import Derived.WalkLawsBesides
import Derived.Lib.Builder
namespace Go.Proofs.Ybulkyjs
open Go.RowKit

theorem some82 : ∃ j, Yba.prog.info? 82 = some j := Option.isSome_iff_exists.1 (by kernel_rfl)
theorem some79 : ∃ j, Yba.prog.info? 79 = some j := Option.isSome_iff_exists.1 (by kernel_rfl)
theorem some28 : ∃ j, Yba.prog.info? 28 = some j := Option.isSome_iff_exists.1 (by kernel_rfl)
theorem neq48 (a : Addr) (w : World) : (binOp .neq 48 (.pointer (some a)) (.pointer (some a))).run Yba.prog w = .ok (.bool false) w := by
  obtain ⟨j, hj⟩ := some82
  exact Lib.run_neq_ptr_same w a Yba.underlying48 hj
theorem neq76 (a : Addr) (w : World) : (binOp .neq 76 (.pointer (some a)) (.pointer (some a))).run Yba.prog w = .ok (.bool false) w := by
  obtain ⟨j, hj⟩ := some79
  exact Lib.run_neq_ptr_same w a Yba.underlying76 hj
theorem neq23 (a : Addr) (w : World) : (binOp .neq 23 (.pointer (some a)) (.pointer (some a))).run Yba.prog w = .ok (.bool false) w := by
  obtain ⟨j, hj⟩ := some28
  exact Lib.run_neq_ptr_same w a Yba.underlying23 hj
theorem eql23 (a : Addr) (w : World) : (binOp .eql 23 (.pointer (some a)) (.pointer (some a))).run Yba.prog w = .ok (.bool true) w := by
  obtain ⟨j, hj⟩ := some28
  exact run_eql_ptr_same w a Yba.underlying23 hj

attribute [local go_sem] neq48 neq76 neq23 eql23

set_option maxHeartbeats 800000 in
set_option maxRecDepth 100000 in
theorem keeps_eq (a0 a2 : Int) (w : World) :
    Calls Yba.prog 4 #[.int .u64 a0, .int .u64 a0, .int .u64 a2] w fun e w' => e = .returned (.bool true) ∧ Grown w w' := by
  go_enter Yba.func4, Yba.ntmps4
  go_wp2
  go_ret
  exact ⟨rfl, by repeat (first | exact Grown.refl _ | apply Grown.drew | apply Grown.alloc)⟩

set_option maxHeartbeats 800000 in
set_option maxRecDepth 100000 in
theorem keeps_ne (a0 a1 a2 : Int) (w : World) (_h1 : (a0 == a1) = false) (h2 : (a1 == a0) = false) :
    Calls Yba.prog 4 #[.int .u64 a0, .int .u64 a1, .int .u64 a2] w fun e w' => e = .returned (.bool true) ∧ Grown w w' := by
  go_enter Yba.func4, Yba.ntmps4
  go_wp2
  go_ret
  exact ⟨rfl, by repeat (first | exact Grown.refl _ | apply Grown.drew | apply Grown.alloc)⟩

theorem keeps_any (a0 a1 a2 : Int) (w : World) :
    Calls Yba.prog 4 #[.int .u64 a0, .int .u64 a1, .int .u64 a2] w fun e w' => e = .returned (.bool true) ∧ Grown w w' := by
  by_cases h : a0 = a1
  · subst h
    exact keeps_eq a0 a2 w
  · exact keeps_ne a0 a1 a2 w (by simpa using h) (by simpa using fun e => h e.symm)

end Go.Proofs.Ybulkyjs

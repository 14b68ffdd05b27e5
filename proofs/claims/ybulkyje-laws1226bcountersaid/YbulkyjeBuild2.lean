/-
  zzs1226bbuild (function 4) at every slice of strings and every slice of counters.
-/
import Derived.Test.YbulkyjeBuild
namespace Go.Proofs.Ybulkyje
open Go.RowKit Go.Sort

set_option maxHeartbeats 400000 in
theorem build_nil (nv cv : Nat) (a2 : Option Addr) (w : World) :
    Calls Yba.prog 4 #[.slice none 0 0, .slice a2 nv cv] w fun e w' => ∃ lv cv, e = .returned (.agg #[.string ⟨#[]⟩, lv, cv]) ∧ Built w' lv cv ∧ Below w.heap.size w w' := by
  have hmk : ∀ w, (Instr.makeSlice 23 (.int .i64 0) (.int .i64 0)).run Yba.prog w = .ok (.slice (some ⟨w.heap.size, 0, none⟩) 0 0) (w.alloc (.cells #[] 29)) := fun _ => by kernel_rfl
  go_enter Yba.func4, Yba.ntmps4
  go_wp2_with fail
  refine (Yba.slices_Clone_string_nil 0 0 _).mono ?_
  rintro e w1 ⟨rfl, rfl⟩
  go_wp2_with fail
  refine (Yba.slices_Sort_string_none none 0 _).mono ?_
  rintro e w2 ⟨rfl, rfl⟩
  go_wp2_with fail
  refine (Yba.slices_Compact_string_empty none 0 _).mono ?_
  rintro e w3 ⟨rfl, rfl⟩
  go_wp2
  refine wp_loop_rounds 1 ?_
  rw [rounds_succ]
  go_wp2
  exact bodyPost_ret (v := .agg #[.string ⟨#[]⟩, .slice none 0 0, .slice (some ⟨w.heap.size + 1, 0, none⟩) 0 0]) (by simp [results, Yba.results4, go_sem]) rfl ⟨_, _, rfl, .inl ⟨_, _, _, _, rfl, rfl⟩, ((Below.refl _ _).alloc (Nat.le_refl _) _).alloc (by simp) _⟩

theorem size_alloc1 (w : World) (o : Obj) : (w.alloc o).heap.size = w.heap.size + 1 := by simp

/-- slices.Clone, as build_some asks it. -/
theorem clone_some (b off n c : Nat) (zs : List ByteArray) (w : World) (hz : n ≤ zs.length) (hn : n ≤ 1024) (hb : b < w.heap.size) (hc : ∀ j, j < zs.length → w.cell? ⟨b, off + j, none⟩ = some (.string (zs.getD j ByteArray.empty))) (o : Obj) :
    Calls Yba.prog 6 #[.slice (some ⟨b, off, none⟩) n c] (w.alloc o) fun e w' => ∃ v', e = .returned v' ∧ w'.ownsRow (w.heap.size + 1) 9 1 v' n (((zs.take n).map (·.data.toList)).map encStr) ∧ v' ≠ .slice none 0 0 ∧ Below (w.heap.size + 1) (w.alloc o) w' := by
  have h := Yba.slices_Clone_string b off n c zs (w.alloc o) hz (by omega) (fun j hj => by rw [World.cell?_alloc_past _ _ _ hb]; exact hc j hj)
  rw [size_alloc1] at h
  rw [Lib.map_encStr]
  exact h
theorem clone_zero (a : Addr) (c : Nat) (w : World) (o : Obj) :
    Calls Yba.prog 6 #[.slice (some a) 0 c] (w.alloc o) fun e w' => ∃ v', e = .returned v' ∧ w'.ownsRow (w.heap.size + 1) 9 1 v' 0 (([] : Strs).map encStr) ∧ v' ≠ .slice none 0 0 ∧ Below (w.heap.size + 1) (w.alloc o) w' := by
  have h := Yba.slices_Clone_string_zero a c (w.alloc o)
  rw [size_alloc1] at h
  exact h

end Go.Proofs.Ybulkyje

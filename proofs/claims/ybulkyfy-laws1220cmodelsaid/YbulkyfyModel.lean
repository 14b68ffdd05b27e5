/-
  zzs1220cmodel (function 6) and nonzero (function 4): each gathers 'gather zs n (len - i) i []'.
-/
import Derived.Test.YbulkyfyRows
import Derived.Test.YbulkyfyParts
import Derived.WalkLawsBesides
namespace Go.Proofs.Ybulkyfy
open Go.RowKit

theorem Yba.info3 : (Yba.prog.info? 3).map (fun i => (i.zero, i.size, i.bytes)) = some (some (.int .i64 0), 1, 8) := by kernel_rfl

set_option maxHeartbeats 400000 in
set_option maxRecDepth 1000000 in
theorem model_some (b off len cap : Nat) (zs : List Int) (i : Nat) (n : Int) (w : World) (hlen : len ≤ 1024) (hi2 : i ≤ len + 1)
    (hb : b < w.heap.size) (hc : ∀ j, j < len → w.cell? ⟨b, off + j, none⟩ = some (.int .u64 (zs.getD j 0))) :
    Calls Yba.prog 6 #[.slice (some ⟨b, off, none⟩) len cap, .int .i64 i, .int .i64 n] w fun e w' =>
      ∃ v, e = .returned v ∧ w'.ownsRow w.heap.size 3 1 v (gather zs n (len - i) i []).length ((gather zs n (len - i) i []).map (Value.int .i64)) ∧ Below w.heap.size w w' := by
  obtain ⟨i0, hi, hz0, hz1, hz2⟩ := info_parts Yba.info3
  obtain ⟨L, hL⟩ : ∃ L, L = gather zs n (len - i) i [] := ⟨_, rfl⟩
  have HL : Hid (gather zs n (len - i) i [] = L) := hL.symm
  rw [← hL]
  clear hL
  go_enter Yba.func6, Yba.ntmps6
  go_wp2
  go_loopw [7, 8] (fun v c wr => ∃ (j : Nat) (acc : List Int), j ≤ len + 1 ∧ c = .int .i64 j ∧ Hid (gather zs n (len - j) j acc = L) ∧ acc.length ≤ j ∧ wr.ownsRow w.heap.size 3 1 v acc.length (acc.map (Value.int .i64)) ∧ Below w.heap.size w wr)
    (fun _ c _ => len - (intOf c).toNat)
  case atStart => exact ⟨i, [], hi2, rfl, HL, Nat.zero_le _, World.ownsRow_nil _ _ _ _, Below.refl _ _⟩
  case round =>
    obtain ⟨j, acc, hj, rfl, HR, hal, hown, hnx⟩ := hrel
    obtain ⟨va, vcap, rfl⟩ := own_form hown
    have hcx : j < len → wr.cell? ⟨b, off + j, none⟩ = some (.int .u64 (zs.getD j 0)) := fun h => (hnx.cell (by exact hb)).trans (hc j h)
    go_wp2_with (at_builtin; refine wpList_append_own _ rfl _ _ 30 rfl w.heap.size 3 i0 (.int .i64 0) 1 8 Yba.underlying30 hi hz0 hz1 hz2 rfl (by decide) _ _ _ rfl (hown.alloc _) ⟨wr.heap.size, 0, none⟩ 1 1 [.int .i64 j] rfl rfl ?c1 ?c2 ?c3 ?c4 ?c5 ?_)
    · have hf : n ≤ (acc.length : Int) := by assumption
      have e := gather_full HR.out (by omega)
      subst e
      go_ret
      exact ⟨_, rfl, hown, hnx⟩
    case c1 => exact cell_one_new _ _ _
    case c2 => intro u hu; simp at hu; subst hu; rfl
    case c3 => unfold maxLen; omega
    case c4 => omega
    case c5 => have := hnx.size; simp; omega
    · intro v' w1 hown' hgrow _
      have hlt : j < len := by assumption
      have h1 : (acc.length : Int) < n := by assumption
      have h2 : (zs[j]?.getD 0 != 0) = true := by assumption
      have H1 : Hid (gather zs n (len - (j + 1)) (j + 1) (acc ++ [(j : Int)]) = L) := gather_hit HR.out hlt h1 (by simpa [List.getD_eq_getElem?_getD] using h2)
      have R := rel_keep (by have := hnx.size; omega) hown hnx hown' hgrow
      clear hown' hgrow hown hcx
      go_wp2
      go_roundw
      case rel => exact ⟨j + 1, _, by omega, by go_num, H1, by simp; omega, R.1, R.2⟩
      case measure => simp [intOf]; omega
    · have hlt : j < len := by assumption
      have h1 : (acc.length : Int) < n := by assumption
      have h2 : (zs[j]?.getD 0 != 0) = false := by assumption
      go_roundw
      case rel => exact ⟨j + 1, acc, by omega, by go_num, gather_miss HR.out hlt h1 (by simpa [List.getD_eq_getElem?_getD] using h2), by omega, hown, hnx⟩
      case measure => simp [intOf]; omega
    · have hge : ¬ j < len := by assumption
      have e := gather_end HR.out hge
      subst e
      go_ret
      exact ⟨_, rfl, hown, hnx⟩

set_option maxHeartbeats 400000 in
theorem model_zero (a : Option Addr) (cap : Nat) (i : Nat) (n : Int) (w : World) (_hi2 : i ≤ 1) :
    Calls Yba.prog 6 #[.slice a 0 cap, .int .i64 i, .int .i64 n] w fun e w' => e = .returned (.slice none 0 0) ∧ w' = w := by
  go_enter Yba.func6, Yba.ntmps6
  go_wp2
  refine wp_loop_rounds 1 ?_
  rw [rounds_succ]
  go_wp2
  go_ret
  exact ⟨rfl, rfl⟩

set_option maxHeartbeats 400000 in
set_option maxRecDepth 1000000 in
theorem nonzero_some (g h : Nat) (b off len cap : Nat) (zs : List Int) (i : Nat) (n : Int) (w : World) (hlen : len ≤ 1024) (hi2 : i ≤ len + 1)
    (hg : w.cell? ⟨g, 1, none⟩ = some (.pointer (some ⟨h, 0, none⟩))) (hh : w.cell? ⟨h, 2, none⟩ = some (.slice (some ⟨b, off, none⟩) len cap)) (hb : b < w.heap.size) (hc : ∀ j, j < len → w.cell? ⟨b, off + j, none⟩ = some (.int .u64 (zs.getD j 0))) :
    Calls Yba.prog 4 #[.pointer (some ⟨g, 0, none⟩), .int .i64 i, .int .i64 n] w fun e w' =>
      ∃ v, e = .returned v ∧ w'.ownsRow w.heap.size 3 1 v (gather zs n (len - i) i []).length ((gather zs n (len - i) i []).map (Value.int .i64)) ∧ Below w.heap.size w w' := by
  obtain ⟨i0, hi, hz0, hz1, hz2⟩ := info_parts Yba.info3
  obtain ⟨L, hL⟩ : ∃ L, L = gather zs n (len - i) i [] := ⟨_, rfl⟩
  have HL : Hid (gather zs n (len - i) i [] = L) := hL.symm
  rw [← hL]
  clear hL
  go_enter Yba.func4, Yba.ntmps4
  go_wp2
  go_loopw [7, 1] (fun v c wr => ∃ (j : Nat) (acc : List Int), j ≤ len + 1 ∧ c = .int .i64 j ∧ Hid (gather zs n (len - j) j acc = L) ∧ acc.length ≤ j ∧ wr.ownsRow w.heap.size 3 1 v acc.length (acc.map (Value.int .i64)) ∧ Below w.heap.size w wr)
    (fun _ c _ => len - (intOf c).toNat)
  case atStart => exact ⟨i, [], hi2, rfl, HL, Nat.zero_le _, World.ownsRow_nil _ _ _ _, Below.refl _ _⟩
  case round =>
    obtain ⟨j, acc, hj, rfl, HR, hal, hown, hnx⟩ := hrel
    obtain ⟨va, vcap, rfl⟩ := own_form hown
    have hcx : j < len → wr.cell? ⟨b, off + j, none⟩ = some (.int .u64 (zs.getD j 0)) := fun h => (hnx.cell (by exact hb)).trans (hc j h)
    go_wp2_with (at_builtin; refine wpList_append_own _ rfl _ _ 30 rfl w.heap.size 3 i0 (.int .i64 0) 1 8 Yba.underlying30 hi hz0 hz1 hz2 rfl (by decide) _ _ _ rfl (hown.alloc _) ⟨wr.heap.size, 0, none⟩ 1 1 [.int .i64 j] rfl rfl ?c1 ?c2 ?c3 ?c4 ?c5 ?_)
    case c1 => exact cell_one_new _ _ _
    case c2 => intro u hu; simp at hu; subst hu; rfl
    case c3 => unfold maxLen; omega
    case c4 => omega
    case c5 => have := hnx.size; simp; omega
    · intro v' w1 hown' hgrow _
      have hlt : j < len := by assumption
      have h1 : (acc.length : Int) < n := by assumption
      have h2 : (zs[j]?.getD 0 != 0) = true := by assumption
      have H1 : Hid (gather zs n (len - (j + 1)) (j + 1) (acc ++ [(j : Int)]) = L) := gather_hit HR.out hlt h1 (by simpa [List.getD_eq_getElem?_getD] using h2)
      have R := rel_keep (by have := hnx.size; omega) hown hnx hown' hgrow
      clear hown' hgrow hown hcx
      go_wp2
      go_roundw
      case rel => exact ⟨j + 1, _, by omega, by go_num, H1, by simp; omega, R.1, R.2⟩
      case measure => simp [intOf]; omega
    · have hlt : j < len := by assumption
      have h1 : (acc.length : Int) < n := by assumption
      have h2 : (zs[j]?.getD 0 != 0) = false := by assumption
      go_roundw
      case rel => exact ⟨j + 1, acc, by omega, by go_num, gather_miss HR.out hlt h1 (by simpa [List.getD_eq_getElem?_getD] using h2), by omega, hown, hnx⟩
      case measure => simp [intOf]; omega
    · have hf : n ≤ (acc.length : Int) := by assumption
      have e := gather_full HR.out (by omega)
      subst e
      go_ret
      exact ⟨_, rfl, hown, hnx⟩
    · have hge : ¬ j < len := by assumption
      have e := gather_end HR.out hge
      subst e
      go_ret
      exact ⟨_, rfl, hown, hnx⟩

set_option maxHeartbeats 400000 in
theorem nonzero_zero (g h : Nat) (a : Option Addr) (cap : Nat) (i : Nat) (n : Int) (w : World) (_hi2 : i ≤ 1)
    (hg : w.cell? ⟨g, 1, none⟩ = some (.pointer (some ⟨h, 0, none⟩))) (hh : w.cell? ⟨h, 2, none⟩ = some (.slice a 0 cap)) :
    Calls Yba.prog 4 #[.pointer (some ⟨g, 0, none⟩), .int .i64 i, .int .i64 n] w fun e w' => e = .returned (.slice none 0 0) ∧ w' = w := by
  go_enter Yba.func4, Yba.ntmps4
  go_wp2
  refine wp_loop_rounds 1 ?_
  rw [rounds_succ]
  go_wp2
  go_ret
  exact ⟨rfl, rfl⟩

theorem Yba.info51 : (Yba.prog.info? 51).map (fun i => (i.zero, i.size, i.bytes)) = some (some (.int .u64 0), 1, 8) := by kernel_rfl

set_option maxHeartbeats 400000 in
theorem eq_true (B : Nat) (v u : Value) (L : List Int) (w : World) (hl : L.length ≤ 2000) (hv : w.ownsRow B 3 1 v L.length (L.map (Value.int .i64))) (hu : w.ownsRow B 3 1 u L.length (L.map (Value.int .i64))) :
    Calls Yba.prog 5 #[v, u] w fun e w' => e = .returned (.bool true) ∧ Below w.heap.size w w' := by
  rcases own_ints hv with ⟨rfl, rfl⟩ | ⟨gv, cv, rfl, _, hgv, _, _, hcv⟩
  · obtain ⟨va, vcap, rfl⟩ := own_form hu
    go_enter Yba.func5, Yba.ntmps5
    go_wp2
    refine wp_loop_rounds 1 ?_
    rw [rounds_succ]
    go_wp2
    go_ret
    exact ⟨rfl, Below.refl _ _⟩
  rcases own_ints hu with ⟨rfl, rfl⟩ | ⟨gu, cu, rfl, _, hgu, _, _, hcu⟩
  · go_enter Yba.func5, Yba.ntmps5
    go_wp2
    refine wp_loop_rounds 1 ?_
    rw [rounds_succ]
    go_wp2
    go_ret
    exact ⟨rfl, Below.refl _ _⟩
  clear hv hu
  go_enter Yba.func5, Yba.ntmps5
  go_wp2
  go_loopw [5] (fun c wr => ∃ j : Nat, j ≤ L.length ∧ c = .int .i64 j ∧ Below w.heap.size w wr) (fun c _ => L.length - (intOf c).toNat)
  case atStart => exact ⟨0, Nat.zero_le _, rfl, Below.refl _ _⟩
  case round =>
    obtain ⟨j, hj, rfl, hnx⟩ := hrel
    by_cases hlt : j < L.length
    · have c1 : wr.cell? ⟨gv, j, none⟩ = some (.int .i64 (L.getD j 0)) := (hnx.cell (by exact hgv)).trans (hcv j hlt)
      have c2 : wr.cell? ⟨gu, j, none⟩ = some (.int .i64 (L.getD j 0)) := (hnx.cell (by exact hgu)).trans (hcu j hlt)
      have b1 : (0 : Int) ≤ (j : Int) := by omega
      have b2 : (j : Int) < (L.length : Int) := by omega
      go_wp2
      go_region
      all_goals go_wp2
      go_roundw
      case rel => exact ⟨j + 1, by omega, by go_num, hnx.drew⟩
      case measure => simp [intOf]; omega
    · go_wp2
      go_ret
      exact ⟨rfl, hnx⟩

end Go.Proofs.Ybulkyfy

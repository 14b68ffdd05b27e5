/-
  The contracts: awaits (5), zzs1222bbuild (6), zzs1222bpick (7), zzs1222bhas (8), handedOver (9).
-/
import Derived.Test.YbulkyhaRows
import Derived.Test.YbulkyhaParts
import Derived.WalkLawsBesides
import Derived.Lib.SliceRun
import Derived.Deep.RegionHeld3
namespace Go.Proofs.Ybulkyha
open Go.RowKit Go.Maps

theorem law : Keyed Yba.prog 26 := int_keyed Yba.underlying26
theorem zero33 (w : World) : (zeroValue 33).run Yba.prog w = .ok (.slice none 0 0) w := by kernel_rfl

set_option maxHeartbeats 400000 in
theorem awaits_none (x : Int) (w : World) : Calls Yba.prog 5 #[.pointer none, .int .u64 x] w fun e w' => e = .returned (.bool false) ∧ w' = w := by
  go_enter Yba.func5, Yba.ntmps5
  go_wp2
  go_ret
  exact ⟨rfl, rfl⟩

set_option maxHeartbeats 400000 in
theorem awaits_nilmap (v : Nat) (x : Int) (w : World) (hx : (Lit.int .u64 x).wf = true) (hc : w.cell? ⟨v, 0, none⟩ = some (.map none)) :
    Calls Yba.prog 5 #[.pointer (some ⟨v, 0, none⟩), .int .u64 x] w fun e w' => e = .returned (.bool false) ∧ w' = w := by
  have hrun := Maps.look_nil (w := w) true law Yba.underlying35 (zero33 w) (keyOf_int_mk Yba.underlying26 hx)
  simp only [if_true] at hrun
  go_enter Yba.func5, Yba.ntmps5
  go_wp2
  go_ret
  exact ⟨rfl, rfl⟩

set_option maxHeartbeats 400000 in
theorem awaits_some (v B n : Nat) (D : DataW Unit) (x : Int) (w : World) (hx : (Lit.int .u64 x).wf = true) (hc : w.cell? ⟨v, 0, none⟩ = some (.map (some B))) (hown : w.ownsMap Yba.prog 26 nilElem B n D) :
    Calls Yba.prog 5 #[.pointer (some ⟨v, 0, none⟩), .int .u64 x] w fun e w' => e = .returned (.bool (Maps.has D (.int .u64 x))) ∧ w' = w := by
  obtain ⟨z, ps, hrun, hz⟩ := hown.look_ok law Yba.underlying35 (zero33 w) nilElem_mk (keyOf_int_mk Yba.underlying26 hx)
  obtain rfl := nilElem_inv hz
  clear hz
  go_enter Yba.func5, Yba.ntmps5
  go_wp2
  go_ret
  exact ⟨rfl, rfl⟩

set_option maxHeartbeats 400000 in
theorem handed_nilmap (v : Nat) (x : Int) (w : World) (hx : (Lit.int .u64 x).wf = true) (hc : w.cell? ⟨v, 0, none⟩ = some (.map none)) :
    Calls Yba.prog 9 #[.pointer (some ⟨v, 0, none⟩), .int .u64 x, .bool false] w fun e w' => e = .returned (.tuple #[]) ∧ w' = w := by
  have hrun := fun ty => Maps.drop_nil (w := w) law Yba.underlying35 (keyOf_int_mk Yba.underlying26 hx) ty
  go_enter Yba.func9, Yba.ntmps9
  go_wp2
  go_end0
  exact ⟨rfl, rfl⟩

set_option maxHeartbeats 400000 in
theorem handed_some (v B n : Nat) (D : DataW Unit) (x : Int) (w : World) (hx : (Lit.int .u64 x).wf = true) (hc : w.cell? ⟨v, 0, none⟩ = some (.map (some B))) (hown : w.ownsMap Yba.prog 26 nilElem B n D) :
    Calls Yba.prog 9 #[.pointer (some ⟨v, 0, none⟩), .int .u64 x, .bool false] w fun e w' => e = .returned (.tuple #[]) ∧ w'.ownsMap Yba.prog 26 nilElem B n (D.del (.int .u64 x)) ∧ w.grownBy w' (some B) := by
  go_enter Yba.func9, Yba.ntmps9
  go_wp2_with (at_delete; refine wpList_delete_own _ rfl _ _ 35 26 rfl 33 law Yba.underlying35 _ B n D rfl hown _ _ rfl (keyOf_int_mk Yba.underlying26 hx) ?_)
  intro w1 hown1 hturn1
  go_wp2
  go_end0
  exact ⟨rfl, hown1, hturn1.grown⟩

set_option maxHeartbeats 400000 in
theorem has_zero (a : Option Addr) (cap : Nat) (x : Int) (w : World) : Calls Yba.prog 8 #[.slice a 0 cap, .int .u64 x] w fun e w' => e = .returned (.bool false) ∧ w' = w := by
  go_enter Yba.func8, Yba.ntmps8
  go_wp2
  refine wp_loop_rounds 1 ?_
  rw [rounds_succ]
  go_wp2
  go_ret
  exact ⟨rfl, rfl⟩

set_option maxHeartbeats 400000 in
theorem has_some (b off cap : Nat) (ys : List Int) (x : Int) (w : World) (hlen : ys.length ≤ 1024) (hc : ∀ j, j < ys.length → w.cell? ⟨b, off + j, none⟩ = some (.int .u64 (ys.getD j 0))) :
    Calls Yba.prog 8 #[.slice (some ⟨b, off, none⟩) ys.length cap, .int .u64 x] w fun e w' => e = .returned (.bool (memB ys x)) ∧ w' = w := by
  go_enter Yba.func8, Yba.ntmps8
  go_wp2
  go_loop [5] (fun c => ∃ k : Nat, k ≤ ys.length ∧ c = .int .i64 k ∧ Hid (memB (ys.take k) x = false)) (fun c => ys.length - (intOf c).toNat)
  case atStart => exact ⟨0, Nat.zero_le _, rfl, rfl⟩
  case round =>
    obtain ⟨k, hk, rfl, HX⟩ := hrel
    have hcx : k < ys.length → w.cell? ⟨b, off + k, none⟩ = some (.int .u64 (ys.getD k 0)) := fun h => hc k h
    go_wp2
    · have hlt : k < ys.length := by assumption
      have hm : (ys[k] == x) = true := by assumption
      go_ret
      exact ⟨by rw [memB_at ys k hlt x hm]; rfl, rfl⟩
    · have hlt : k < ys.length := by assumption
      have hm : (ys[k] == x) = false := by assumption
      go_round
      case rel =>
        refine ⟨k + 1, by omega, by go_num, ?_⟩
        show memB (ys.take (k + 1)) x = false
        have e1 : (x == ys.getD k 0) = false := by
          rw [List.getD_eq_getElem?_getD, List.getElem?_eq_getElem hlt]
          simpa using fun e => (by simpa using hm : ¬ ys[k] = x) e.symm
        rw [take_snoc ys k hlt, memB_snoc, HX.out, e1]
        rfl
      case measure => simp [intOf]; omega
    · have hge : ¬ k < ys.length := by assumption
      go_ret
      have e := HX.out
      rw [List.take_of_length_le (by omega)] at e
      exact ⟨by rw [e]; rfl, rfl⟩

set_option maxHeartbeats 400000 in
theorem pick_zero (a : Option Addr) (cap : Nat) (x s : Int) (w : World) (_hs : 0 ≤ s) (_hs2 : s ≤ 255) (hx : (Lit.int .u64 x).wf = true) :
    Calls Yba.prog 7 #[.slice a 0 cap, .int .u64 x, .int .u8 s] w fun e w' => ∃ y, e = .returned (.int .u64 y) ∧ (Lit.int .u64 y).wf = true ∧ w' = w := by
  go_enter Yba.func7, Yba.ntmps7
  go_wp2
  all_goals (go_ret; exact ⟨x, rfl, hx, rfl⟩)

set_option maxHeartbeats 400000 in
theorem pick_some (b off cap : Nat) (ys : List Int) (x s : Int) (w : World) (hlen : ys.length ≤ 1024) (hpos : 0 < ys.length) (hs : 0 ≤ s) (hs2 : s ≤ 255) (hx : (Lit.int .u64 x).wf = true) (hwf : ∀ y ∈ ys, (Lit.int .u64 y).wf = true)
    (hc : ∀ j, j < ys.length → w.cell? ⟨b, off + j, none⟩ = some (.int .u64 (ys.getD j 0))) :
    Calls Yba.prog 7 #[.slice (some ⟨b, off, none⟩) ys.length cap, .int .u64 x, .int .u8 s] w fun e w' => ∃ y, e = .returned (.int .u64 y) ∧ (Lit.int .u64 y).wf = true ∧ w' = w := by
  obtain ⟨i, hi, hil⟩ : ∃ i : Nat, s / 2 % (ys.length : Int) = (i : Int) ∧ i < ys.length := by
    have h0 := Int.emod_nonneg (s / 2) (b := (ys.length : Int)) (by omega)
    have h1 := Int.emod_lt_of_pos (s / 2) (b := (ys.length : Int)) (by omega)
    exact ⟨(s / 2 % (ys.length : Int)).toNat, by omega, by omega⟩
  have hci := hc i hil
  have hwi : (Lit.int .u64 (ys.getD i 0)).wf = true := by
    rw [List.getD_eq_getElem?_getD, List.getElem?_eq_getElem hil]
    exact hwf _ (List.getElem_mem _)
  go_enter Yba.func7, Yba.ntmps7
  go_wp2
  · go_ret
    exact ⟨_, rfl, by rw [List.getD_eq_getElem?_getD, List.getElem?_eq_getElem hil] at hwi; exact hwi, rfl⟩
  · go_ret
    exact ⟨x, rfl, hx, rfl⟩

set_option maxHeartbeats 400000 in
theorem build_nil (w : World) : Calls Yba.prog 6 #[.slice none 0 0] w fun e w' => e = .returned (.pointer (some ⟨w.heap.size, 0, none⟩)) ∧ w'.cell? ⟨w.heap.size, 0, none⟩ = some (.map none) ∧ Below w.heap.size w w' := by
  have hsn := fun (w : World) (a : Option Addr) (n c : Nat) => run_neq_slice_nil_any (P := Yba.prog) w 22 23 a n c 0 0 Yba.underlying22
  go_enter Yba.func6, Yba.ntmps6
  go_wp2
  go_ret
  exact ⟨rfl, by simp, (Below.refl _ _).alloc (Nat.le_refl _) _⟩

set_option maxHeartbeats 800000 in
theorem build_some (x : Addr) (cap : Nat) (ys : List Int) (w : World) (hlen : ys.length ≤ 1024) (hwf : ∀ y ∈ ys, (Lit.int .u64 y).wf = true)
    (hc : ∀ j, j < ys.length → ∃ b off, x = ⟨b, off, none⟩ ∧ b < w.heap.size ∧ w.cell? ⟨b, off + j, none⟩ = some (.int .u64 (ys.getD j 0))) :
    Calls Yba.prog 6 #[.slice (some x) ys.length cap] w fun e w' => ∃ D, e = .returned (.pointer (some ⟨w.heap.size, 0, none⟩)) ∧ w'.cell? ⟨w.heap.size, 0, none⟩ = some (.map (some (w.heap.size + 1))) ∧
      w'.ownsMap Yba.prog 26 nilElem (w.heap.size + 1) 1024 D ∧ Has D ys ∧ Below w.heap.size w w' := by
  have hsn := fun (w : World) (a : Option Addr) (n c : Nat) => run_neq_slice_nil_any (P := Yba.prog) w 22 23 a n c 0 0 Yba.underlying22
  have hmm := @run_makeMap Yba.prog
  go_enter Yba.func6, Yba.ntmps6
  go_wp2
  go_loopw [4] (fun c wr => ∃ (k : Nat) (D : DataW Unit), k ≤ ys.length ∧ c = .int .i64 k ∧ wr.cell? ⟨w.heap.size, 0, none⟩ = some (.map (some (w.heap.size + 1))) ∧ wr.ownsMap Yba.prog 26 nilElem (w.heap.size + 1) k D ∧ Hid (Has D (ys.take k)) ∧ Below w.heap.size w wr)
    (fun c _ => ys.length - (intOf c).toNat)
  case atStart =>
    refine ⟨0, .map [], Nat.zero_le _, rfl, by simp, ?_, Has.made, ((Below.refl _ _).alloc (Nat.le_refl _) _).alloc (by simp) _⟩
    have h := World.ownsMap_made (w.alloc (.cells #[.map (some (w.heap.size + 1)), .slice none 0 0, .slice none 0 0, .int .u64 0] 39)) Yba.prog 26 nilElem
    simpa using h
  case round =>
    obtain ⟨k, D, hk, rfl, hcell, hown, HD, hnx⟩ := hrel
    by_cases hlt : k < ys.length
    · obtain ⟨b, off, rfl, hb, hcx⟩ := hc k hlt
      obtain ⟨y, hy⟩ : ∃ y, y = ys.getD k 0 := ⟨_, rfl⟩
      have HY : Hid (y = ys.getD k 0) := hy
      have hcr : wr.cell? ⟨b, off + k, none⟩ = some (.int .u64 y) := by rw [hy]; exact (hnx.cell (by exact hb)).trans hcx
      have hwk : (Lit.int .u64 y).wf = true := by
        rw [hy, List.getD_eq_getElem?_getD, List.getElem?_eq_getElem hlt]
        exact hwf _ (List.getElem_mem _)
      obtain ⟨w1, hrun, hown1, hgrow1⟩ := hown.drew.update law Yba.underlying35 (by unfold maxLen; omega) (keyOf_int_mk Yba.underlying26 hwk) nilElem_mk
      clear hy hcx
      have b1 : (0 : Int) ≤ (k : Int) := by omega
      have b2 : (k : Int) < (ys.length : Int) := by omega
      go_wp2
      go_region
      have hnx1 : Below w.heap.size w w1 := (hnx.drew).grown hgrow1 hnx.size (fun j hj => by cases hj; omega)
      have hcell1 : w1.cell? ⟨w.heap.size, 0, none⟩ = some (.map (some (w.heap.size + 1))) := hgrow1.cell (w := wr.drew) hcell (by simp)
      have HD1 : Hid (Has (D.put (.int .u64 y) .nil) (ys.take (k + 1))) := by
        rw [take_snoc ys k hlt, ← HY.out]
        exact HD.out.put hown.isMap y _
      go_wp2
      go_roundw
      case rel => exact ⟨k + 1, _, by omega, by go_num, hcell1, hown1, HD1, hnx1⟩
      case measure => simp [intOf]; omega
    · have e : k = ys.length := by omega
      go_wp2
      go_ret
      refine ⟨D, rfl, hcell, hown.mono (by omega), ?_, hnx⟩
      have h := HD.out
      rw [List.take_of_length_le (by omega)] at h
      exact h

end Go.Proofs.Ybulkyha

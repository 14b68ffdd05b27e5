/-
  (VectorStamp).Counter (function 5): its contract, at an identity that is held, at one that is not, and of a stamp that holds none.
-/
import Derived.Test.YbulkyjeRows
import Derived.Test.YbulkyjeParts
import Derived.Test.YbulkyjeShelf
import Derived.WalkKit
import Derived.WalkSpells
import Derived.WalkLawsBesides
namespace Go.Proofs.Ybulkyje
open Go.RowKit

/-- A string of these bytes. -/
def strOf (x : List UInt8) : ByteArray := ⟨x.toArray⟩
theorem strOf_inj {x y : List UInt8} (h : strOf x = strOf y) : x = y := by
  unfold strOf at h
  injection h with h
  exact List.toArray_inj h
theorem strOf_data (s : ByteArray) : strOf s.data.toList = s := rfl

/-- The search's own row: the list's strings, and behind their end the target itself. -/
def rowOf (C : Strs) (q : List UInt8) (t : Nat) : ByteArray := if t < C.length then strOf (C.getD t []) else strOf q

theorem less_row (C : Strs) (q : List UInt8) (t : Nat) (ht : t < C.length) : Op.bytesLess (rowOf C q t).toList (strOf q).toList = decide (C.getD t [] < q) := by
  unfold rowOf
  rw [if_pos ht, bytesLess_eq, Lib.toList_data, Lib.toList_data]
  rfl
theorem less_past (C : Strs) (q : List UInt8) (t : Nat) (ht : C.length ≤ t) : Op.bytesLess (rowOf C q t).toList (strOf q).toList = false := by
  unfold rowOf
  rw [if_neg (by omega), bytesLess_eq]
  simp [List.lt_irrefl]

/-- slices.BinarySearch in an ascending list, at a string that is there. -/
theorem search_hit (g cap : Nat) (C : Strs) (q : List UInt8) (w : World) (h : C.Pairwise (· < ·)) (hn : C.length ≤ 1024) (i : Nat) (hi : i < C.length) (he : C.getD i [] = q)
    (hc : ∀ j, j < C.length → w.cell? ⟨g, j, none⟩ = some (.string (strOf (C.getD j [])))) :
    Calls Yba.prog 9 #[.slice (some ⟨g, 0, none⟩) C.length cap, .string (strOf q)] w fun e w' => e = .returned (.tuple #[.int .i64 i, .bool true]) ∧ ∃ n, w' = w.drewN n := by
  have hb := bs_hit C h q (fun t => Op.bytesLess (rowOf C q t).toList (strOf q).toList) (less_row C q) (less_past C q) i hi he
  have hs := Yba.slices_BinarySearch_string g 0 C.length cap (rowOf C q) (strOf q) w (by omega) (fun j hj => by rw [Nat.zero_add, hc j hj]; unfold rowOf; rw [if_pos hj])
  rw [hb] at hs
  have hd : decide (i < C.length ∧ rowOf C q i = strOf q) = true := by
    rw [decide_eq_true_eq]
    refine ⟨hi, ?_⟩
    unfold rowOf
    rw [if_pos hi, he]
  rw [hd] at hs
  exact hs

/-- .. at one that is not. -/
theorem search_miss (g cap : Nat) (C : Strs) (q : List UInt8) (w : World) (hn : C.length ≤ 1024) (hno : ∀ i, i < C.length → ¬ C.getD i [] = q)
    (hc : ∀ j, j < C.length → w.cell? ⟨g, j, none⟩ = some (.string (strOf (C.getD j [])))) :
    Calls Yba.prog 9 #[.slice (some ⟨g, 0, none⟩) C.length cap, .string (strOf q)] w fun e w' => ∃ k : Nat, e = .returned (.tuple #[.int .i64 k, .bool false]) ∧ ∃ n, w' = w.drewN n := by
  have hs := Yba.slices_BinarySearch_string g 0 C.length cap (rowOf C q) (strOf q) w (by omega) (fun j hj => by rw [Nat.zero_add, hc j hj]; unfold rowOf; rw [if_pos hj])
  have hd : decide (Lib.bsGo (fun t => Op.bytesLess (rowOf C q t).toList (strOf q).toList) C.length 0 C.length < C.length ∧ rowOf C q (Lib.bsGo (fun t => Op.bytesLess (rowOf C q t).toList (strOf q).toList) C.length 0 C.length) = strOf q) = false := by
    rw [decide_eq_false_iff_not]
    rintro ⟨h1, h2⟩
    have row : ∀ t, t < C.length → rowOf C q t = strOf (C.getD t []) := fun t ht => by unfold rowOf; rw [if_pos ht]
    rw [row _ h1] at h2
    exact hno _ h1 (strOf_inj h2)
  rw [hd] at hs
  exact hs.mono fun e w' ⟨h1, h2⟩ => ⟨_, h1, h2⟩

set_option maxHeartbeats 400000 in
theorem counter_hit (key : ByteArray) (g cap g2 cap2 : Nat) (C : Strs) (cs : List Int) (q : List UInt8) (w : World) (h : C.Pairwise (· < ·)) (hn : C.length ≤ 1024) (i : Nat) (hi : i < C.length) (he : C.getD i [] = q) (hg : g < w.heap.size) (hg2 : g2 < w.heap.size)
    (hc : ∀ j, j < C.length → w.cell? ⟨g, j, none⟩ = some (.string (strOf (C.getD j [])))) (hd : ∀ j, j < C.length → w.cell? ⟨g2, j, none⟩ = some (.int .u64 (cs.getD j 0))) :
    Calls Yba.prog 5 #[.agg #[.string key, .slice (some ⟨g, 0, none⟩) C.length cap, .slice (some ⟨g2, 0, none⟩) C.length cap2], .string (strOf q)] w fun e w' => e = .returned (.int .u64 (cs.getD i 0)) ∧ Below w.heap.size w w' := by
  obtain ⟨z, hz⟩ : ∃ z, z = cs.getD i 0 := ⟨_, rfl⟩
  have hdi : ∀ o, (w.alloc o).cell? ⟨g2, i, none⟩ = some (.int .u64 z) := fun o => by rw [World.cell?_alloc_past _ _ _ hg2, hz]; exact hd i hi
  rw [← hz]
  clear hz
  have b1 : (0 : Int) ≤ (i : Int) := by omega
  have b2 : (i : Int) < (C.length : Int) := by omega
  go_enter Yba.func5, Yba.ntmps5
  go_wp2_with fail
  refine (search_hit g cap C q _ h hn i hi he (fun j hj => by rw [World.cell?_alloc_past _ _ _ hg]; exact hc j hj)).mono ?_
  rintro e w1 ⟨rfl, nd, rfl⟩
  go_wp2
  go_ret
  exact ⟨rfl, below_drewN ((Below.refl _ _).alloc (Nat.le_refl _) _) _⟩

set_option maxHeartbeats 400000 in
theorem counter_miss (key : ByteArray) (g cap : Nat) (cv : Value) (C : Strs) (q : List UInt8) (w : World) (hcv : ∃ a n c, cv = .slice a n c) (hn : C.length ≤ 1024) (hno : ∀ i, i < C.length → ¬ C.getD i [] = q) (hg : g < w.heap.size)
    (hc : ∀ j, j < C.length → w.cell? ⟨g, j, none⟩ = some (.string (strOf (C.getD j [])))) :
    Calls Yba.prog 5 #[.agg #[.string key, .slice (some ⟨g, 0, none⟩) C.length cap, cv], .string (strOf q)] w fun e w' => e = .returned (.int .u64 0) ∧ Below w.heap.size w w' := by
  obtain ⟨a, n, c, rfl⟩ := hcv
  go_enter Yba.func5, Yba.ntmps5
  go_wp2_with fail
  refine (search_miss g cap C q _ hn hno (fun j hj => by rw [World.cell?_alloc_past _ _ _ hg]; exact hc j hj)).mono ?_
  rintro e w1 ⟨k, rfl, nd, rfl⟩
  go_wp2
  go_ret
  exact ⟨rfl, below_drewN ((Below.refl _ _).alloc (Nat.le_refl _) _) _⟩

set_option maxHeartbeats 400000 in
theorem counter_none (key : ByteArray) (a : Option Addr) (cap : Nat) (cv : Value) (q : ByteArray) (w : World) (hcv : ∃ a n c, cv = .slice a n c) :
    Calls Yba.prog 5 #[.agg #[.string key, .slice a 0 cap, cv], .string q] w fun e w' => e = .returned (.int .u64 0) ∧ Below w.heap.size w w' := by
  obtain ⟨a, n, c, rfl⟩ := hcv
  go_enter Yba.func5, Yba.ntmps5
  go_wp2_with fail
  refine (Yba.slices_BinarySearch_string_empty _ cap q _).mono ?_
  rintro e w1 ⟨rfl, rfl⟩
  go_wp2
  go_ret
  exact ⟨rfl, (Below.refl _ _).alloc (Nat.le_refl _) _⟩

end Go.Proofs.Ybulkyje

/-
  THE PLAIN PART of LawS1226BCounter: a sorted and compacted list of strings is strictly ascending; what a binary search finds in it. Nothing of the dump.
-/
import Derived.Lib.SlicesCompact
import Derived.Lib.RowBridge
import Derived.Shelf.Spec.SearchS
namespace Go.Proofs.Ybulkyje
open Go.Lib

/-- A list of the bytes of strings. -/
abbrev Strs := List (List UInt8)

theorem lt_of_le_ne {a b : List UInt8} (h : a ≤ b) (hne : ¬ b = a) : a < b := by
  rcases Classical.em (a < b) with h' | h'
  · exact h'
  · exact absurd (List.le_antisymm (List.not_lt.1 h') h) hne

theorem lt_of_le_lt {a b c : List UInt8} (h : a ≤ b) (h2 : b < c) : a < c := by
  rcases Classical.em (a < c) with h' | h'
  · exact h'
  · exact absurd (List.le_trans (List.not_lt.1 h') h) (List.not_le.2 h2)

/-- What Compact has kept of a sorted row's first m places ascends strictly, and lies at or below the last of them. -/
theorem compactUpTo_asc (d : Array (List UInt8)) (hs : ∀ i j, i ≤ j → j < d.size → d[i]! ≤ d[j]!) : ∀ m, m ≤ d.size → (compactUpTo d m).Pairwise (· < ·) ∧ ∀ x ∈ compactUpTo d m, x ≤ d[m - 1]!
  | 0, _ => by simp [compactUpTo]
  | m + 1, hm => by
    obtain ⟨ih1, ih2⟩ := compactUpTo_asc d hs m (by omega)
    rw [compactUpTo_succ]
    have up : ∀ x ∈ compactUpTo d m, x ≤ d[m]! := fun x hx => List.le_trans (ih2 x hx) (hs (m - 1) m (by omega) (by omega))
    by_cases hk : keeps d m = true
    · rw [if_pos hk]
      refine ⟨?_, ?_⟩
      · rw [List.pairwise_append]
        refine ⟨ih1, by simp, fun x hx y hy => ?_⟩
        simp only [List.mem_singleton] at hy
        subst hy
        by_cases h0 : m = 0
        · subst h0; simp [compactUpTo] at hx
        · have hne : ¬ d[m]! = d[m - 1]! := by
            have := hk
            simp only [keeps, decide_eq_true_eq] at this
            rcases this with h | h
            · exact absurd h h0
            · exact h
          exact lt_of_le_lt (ih2 x hx) (lt_of_le_ne (hs (m - 1) m (by omega) (by omega)) hne)
      · intro x hx
        rw [List.mem_append] at hx
        rcases hx with hx | hx
        · exact up x hx
        · simp only [List.mem_singleton] at hx
          subst hx
          exact List.le_refl _
    · rw [if_neg hk, List.append_nil]
      exact ⟨ih1, up⟩

theorem sorted_pairwise (ss : Strs) : (ss.mergeSort fun x y => decide (x ≤ y)).Pairwise (fun a b => decide (a ≤ b) = true) := by
  have tr : ∀ a b c : List UInt8, decide (a ≤ b) = true → decide (b ≤ c) = true → decide (a ≤ c) = true := fun a b c h1 h2 => by simp only [decide_eq_true_eq] at *; exact List.le_trans h1 h2
  have to : ∀ a b : List UInt8, (decide (a ≤ b) || decide (b ≤ a)) = true := fun a b => by simp only [Bool.or_eq_true, decide_eq_true_eq]; exact List.le_total a b
  exact List.pairwise_mergeSort (le := fun x y : List UInt8 => decide (x ≤ y)) tr to ss

/-- The list that the stamp is made over: sorted, each once. -/
def uniq (ss : Strs) : Strs := compact (ss.mergeSort fun x y => decide (x ≤ y))

theorem uniq_asc (ss : Strs) : (uniq ss).Pairwise (· < ·) := by
  have hp := sorted_pairwise ss
  unfold uniq compact
  refine (compactUpTo_asc _ (fun i j hij hj => ?_) _ (by simp)).1
  have hj' : j < (ss.mergeSort fun x y => decide (x ≤ y)).length := by simpa using hj
  rw [getElem!_pos _ i (by simp at hj ⊢; omega), getElem!_pos _ j hj]
  simp only [List.getElem_toArray]
  by_cases e : i = j
  · subst e; exact List.le_refl _
  · exact of_decide_eq_true ((List.pairwise_iff_getElem.1 hp) i j (by omega) hj' (by omega))

theorem uniq_len (ss : Strs) : (uniq ss).length ≤ ss.length := by
  have h := compact_length_le (ss.mergeSort fun x y => decide (x ≤ y))
  rw [List.length_mergeSort] at h
  exact h

theorem asc_at {C : Strs} (h : C.Pairwise (· < ·)) {i j : Nat} (hij : i < j) (hj : j < C.length) : C.getD i [] < C.getD j [] := by
  rw [List.getD_eq_getElem?_getD, List.getD_eq_getElem?_getD, List.getElem?_eq_getElem hj, List.getElem?_eq_getElem (by omega)]
  exact (List.pairwise_iff_getElem.1 h) i j (by omega) hj hij

/-- The halving finds an element that is there, where it is. -/
theorem bs_hit (C : Strs) (h : C.Pairwise (· < ·)) (q : List UInt8) (less : Nat → Bool) (hl : ∀ t, t < C.length → less t = decide (C.getD t [] < q)) (hl2 : ∀ t, C.length ≤ t → less t = false) (i : Nat) (hi : i < C.length) (he : C.getD i [] = q) :
    bsGo less C.length 0 C.length = i := by
  refine bsGo_spec less i (fun t ht => ?_) (fun t ht => ?_) _ _ _ (by omega) (Nat.zero_le _) (by omega)
  · rw [hl t (by omega), ← he]; simpa using asc_at h ht hi
  · by_cases htl : t < C.length
    · rw [hl t htl, ← he]
      by_cases e : t = i
      · subst e; simp [List.lt_irrefl]
      · have := asc_at h (show i < t by omega) htl
        simpa using List.not_lt.1 (fun hh => List.lt_irrefl _ (List.lt_trans this hh))
    · exact hl2 t (by omega)

end Go.Proofs.Ybulkyje

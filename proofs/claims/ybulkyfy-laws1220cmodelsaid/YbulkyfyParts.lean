/-
  THE PLAIN PART of LawS1220CModel: what both loops gather, as one function on lists; what a round does to the loop's relation. Nothing of the dump.
-/
import Derived.WalkKit
import Derived.WalkSpells
namespace Go.Proofs.Ybulkyfy
open Go.RowKit

/-- The loop: f rounds at most, from place j on, acc gathered so far. -/
def gather (zs : List Int) (n : Int) : Nat → Nat → List Int → List Int
  | 0, _, acc => acc
  | f + 1, j, acc => if (acc.length : Int) < n then gather zs n f (j + 1) (if zs.getD j 0 = 0 then acc else acc ++ [(j : Int)]) else acc

theorem gather_hit {zs : List Int} {n : Int} {len j : Nat} {acc L : List Int} (h : gather zs n (len - j) j acc = L) (hj : j < len) (hn : (acc.length : Int) < n) (hz : ¬ zs.getD j 0 = 0) :
    gather zs n (len - (j + 1)) (j + 1) (acc ++ [(j : Int)]) = L := by
  have e : len - j = (len - (j + 1)) + 1 := by omega
  rw [e] at h
  simp only [gather, if_pos hn, if_neg hz] at h
  exact h
theorem gather_miss {zs : List Int} {n : Int} {len j : Nat} {acc L : List Int} (h : gather zs n (len - j) j acc = L) (hj : j < len) (hn : (acc.length : Int) < n) (hz : zs.getD j 0 = 0) :
    gather zs n (len - (j + 1)) (j + 1) acc = L := by
  have e : len - j = (len - (j + 1)) + 1 := by omega
  rw [e] at h
  simp only [gather, if_pos hn, if_pos hz] at h
  exact h
theorem gather_end {zs : List Int} {n : Int} {len j : Nat} {acc L : List Int} (h : gather zs n (len - j) j acc = L) (hj : ¬ j < len) : acc = L := by
  have e : len - j = 0 := by omega
  rw [e] at h
  exact h
theorem gather_full {zs : List Int} {n : Int} {len j : Nat} {acc L : List Int} (h : gather zs n (len - j) j acc = L) (hn : ¬ (acc.length : Int) < n) : acc = L := by
  cases e : len - j with
  | zero => rw [e] at h; exact h
  | succ f => rw [e] at h; simp only [gather, if_neg hn] at h; exact h

theorem gather_congr (zs ys : List Int) (n : Int) : ∀ (f j : Nat) (acc : List Int), (∀ t, t < j + f → zs.getD t 0 = ys.getD t 0) → gather zs n f j acc = gather ys n f j acc
  | 0, _, _, _ => rfl
  | f + 1, j, acc, h => by
    simp only [gather]
    rw [h j (by omega)]
    split
    · exact gather_congr zs ys n f (j + 1) _ (fun t ht => h t (by omega))
    · rfl

theorem gather_len (zs : List Int) (n : Int) : ∀ (f j : Nat) (acc : List Int), (gather zs n f j acc).length ≤ acc.length + f
  | 0, _, _ => by simp [gather]
  | f + 1, j, acc => by
    simp only [gather]
    split
    · refine Nat.le_trans (gather_len zs n f (j + 1) _) ?_
      split <;> simp <;> omega
    · omega

/-- Behind the append: the relation's limbs. -/
theorem rel_keep {B : Nat} {j : Int} {acc : List Int} {w wr w1 : World} {u v' : Value} {o : Obj} (hB : B ≤ wr.heap.size)
    (hown : wr.ownsRow B 3 1 u acc.length (acc.map (Value.int .i64))) (hnx : Below B w wr)
    (hown' : w1.ownsRow B 3 1 v' (acc.length + 1) (acc.map (Value.int .i64) ++ [.int .i64 j])) (hgrow : (wr.alloc o).grownBy w1 u.ownBlock) :
    w1.ownsRow B 3 1 v' (acc ++ [j]).length ((acc ++ [j]).map (Value.int .i64)) ∧ Below B w w1 := by
  refine ⟨by simpa using hown', ?_⟩
  exact (hnx.alloc hB o).grown hgrow (by simp; omega) (fun k hk => (hown.lt k hk).1)

/-- An owned row's value is a slice of its length. -/
theorem own_form {w : World} {B : Nat} {e : TypeId} {v : Value} {n : Nat} {xs : List Value} (h : w.ownsRow B e 1 v n xs) : ∃ a cap, v = .slice a n cap := by
  rcases h.2 with ⟨hv, hn⟩ | ⟨g, cap, cur, hv, _⟩
  · exact ⟨none, 0, by rw [hv, hn]⟩
  · exact ⟨_, cap, hv⟩

/-- Of an owned row of integers: the value's shape and its cells. -/
theorem own_ints {w : World} {B : Nat} {e : TypeId} {k : IntKind} {v : Value} {L : List Int} (h : w.ownsRow B e 1 v L.length (L.map (Value.int k))) :
    (v = .slice none 0 0 ∧ L = []) ∨ ∃ g cap, v = .slice (some ⟨g, 0, none⟩) L.length cap ∧ B ≤ g ∧ g < w.heap.size ∧ L.length ≤ cap ∧ cap ≤ maxLen ∧ ∀ i, i < L.length → w.cell? ⟨g, i, none⟩ = some (.int k (L.getD i 0)) := by
  have h' := h
  rcases h.2 with ⟨hv, hn⟩ | ⟨g, cap, cur, hv, hbg, hh, hnc, hcm, _, _⟩
  · exact .inl ⟨hv, List.eq_nil_of_length_eq_zero hn⟩
  · subst hv
    refine .inr ⟨g, cap, rfl, hbg, (h'.lt g rfl).2, hnc, hcm, fun i hi => ?_⟩
    rw [h'.cellAt i (by omega)]
    simp [List.getElem?_map, List.getElem?_eq_getElem hi]

/-- What is owned stays owned while nothing that is there turns; the base may be lowered. -/
theorem own_later {w w' : World} {B B' : Nat} {e : TypeId} {v : Value} {n : Nat} {xs : List Value} (h : w.ownsRow B e 1 v n xs) (hb : Below w.heap.size w w') (hB : B' ≤ B) : w'.ownsRow B' e 1 v n xs := by
  have h' := h
  obtain ⟨h1, h2⟩ := h
  refine ⟨h1, ?_⟩
  rcases h2 with h2 | ⟨g, cap, cur, hv, hg, hh, r⟩
  · exact .inl h2
  · subst hv
    exact .inr ⟨g, cap, cur, rfl, by omega, by rw [hb.block g (h'.lt g rfl).2]; exact hh, r⟩

theorem getD_map_int {k : IntKind} {ys : List Int} {j : Nat} {u : Value} (h : (ys.map (Value.int k))[j]? = some u) : j < ys.length ∧ u = .int k (ys.getD j 0) := by
  have hj : j < ys.length := by
    rcases Nat.lt_or_ge j ys.length with h' | h'
    · exact h'
    · rw [List.getElem?_eq_none (by simpa using h')] at h; cases h
  refine ⟨hj, ?_⟩
  rw [List.getElem?_map, List.getElem?_eq_getElem hj] at h
  simp only [Option.map_some, Option.some.injEq] at h
  rw [← h, List.getD_eq_getElem?_getD, List.getElem?_eq_getElem hj]
  rfl

end Go.Proofs.Ybulkyfy

/-
  THE PLAIN PART of LawS1220AWithArgs: the cells of a row of drawings, lengths of joined texts. Nothing of the dump.
-/
import Derived.WalkKit
import Derived.WalkSpells
import Derived.Lib.Join
namespace Go.Proofs.YbulkyfyFmt
open Go.RowKit

/-- The cells of k drawings: a label and an int64 in an interface value each. -/
def cellsTo (P : Nat → ByteArray × Int) : Nat → List Value
  | 0 => []
  | k + 1 => cellsTo P k ++ [.string (P k).1, .iface 2 (.int .i64 (P k).2)]

theorem cellsTo_len (P : Nat → ByteArray × Int) : ∀ k, (cellsTo P k).length = k * 2
  | 0 => rfl
  | k + 1 => by simp [cellsTo, cellsTo_len P k]; omega

theorem cellsTo_at (P : Nat → ByteArray × Int) : ∀ k j, j < k → (cellsTo P k)[j * 2]? = some (.string (P j).1) ∧ (cellsTo P k)[j * 2 + 1]? = some (.iface 2 (.int .i64 (P j).2))
  | 0, j, h => by omega
  | k + 1, j, h => by
    have hl := cellsTo_len P k
    by_cases hj : j < k
    · have ih := cellsTo_at P k j hj
      simp only [cellsTo]
      rw [List.getElem?_append_left (by omega), List.getElem?_append_left (by omega)]
      exact ih
    · have e : j = k := by omega
      subst e
      simp only [cellsTo]
      rw [List.getElem?_append_right (by omega), List.getElem?_append_right (by omega), hl]
      simp

/-- Behind the append of one drawing. -/
theorem rel_draw {B k : Nat} {P : Nat → ByteArray × Int} {w wr w1 : World} {u v' : Value} {o : Obj} (hB : B ≤ wr.heap.size)
    (hown : wr.ownsRow B 33 2 u k (cellsTo P k)) (hnx : Below B w wr)
    (hown' : w1.ownsRow B 33 2 v' (k + 1) (cellsTo P k ++ [.string (P k).1, .iface 2 (.int .i64 (P k).2)])) (hgrow : (wr.alloc o).grownBy w1 u.ownBlock) :
    w1.ownsRow B 33 2 v' (k + 1) (cellsTo P (k + 1)) ∧ Below B w w1 :=
  ⟨hown', (hnx.alloc hB o).grown hgrow (by simp; omega) (fun k hk => (hown.lt k hk).1)⟩

/-- What is owned stays owned while nothing that is there turns; the base may be lowered. -/
theorem own_later {w w' : World} {B B' : Nat} {e : TypeId} {sz : Nat} {v : Value} {n : Nat} {xs : List Value} (h : w.ownsRow B e sz v n xs) (hb : Below w.heap.size w w') (hB : B' ≤ B) : w'.ownsRow B' e sz v n xs := by
  have h' := h
  obtain ⟨h1, h2⟩ := h
  refine ⟨h1, ?_⟩
  rcases h2 with h2 | ⟨g, cap, cur, hv, hg, hh, r⟩
  · exact .inl h2
  · subst hv
    exact .inr ⟨g, cap, cur, rfl, by omega, by rw [hb.block g (h'.lt g rfl).2]; exact hh, r⟩

theorem own_form2 {w : World} {B : Nat} {e : TypeId} {sz : Nat} {v : Value} {n : Nat} {xs : List Value} (h : w.ownsRow B e sz v n xs) : ∃ a cap, v = .slice a n cap := by
  rcases h.2 with ⟨hv, hn⟩ | ⟨g, cap, cur, hv, _⟩
  · exact ⟨none, 0, by rw [hv, hn]⟩
  · exact ⟨_, cap, hv⟩

theorem lens_le (m : Nat) : ∀ xs : List (List UInt8), (∀ x ∈ xs, x.length ≤ m) → Lib.lens xs ≤ xs.length * m
  | [], _ => by simp [Lib.lens]
  | x :: r, h => by
    have h1 := h x (List.mem_cons_self ..)
    have h2 := lens_le m r (fun y hy => h y (List.mem_cons_of_mem _ hy))
    rw [List.length_cons, Nat.add_mul]
    simp only [Lib.lens, List.map_cons, List.sum_cons] at h2 ⊢
    omega

/-- The length of what Join makes of n texts with the separator of two bytes. -/
theorem join_two (xs : List (List UInt8)) (sep : List UInt8) (hs : sep.length = 2) (hn : 0 < xs.length) : (Lib.join xs sep).length = 2 * (xs.length - 1) + Lib.lens xs := by
  cases xs with
  | nil => simp at hn
  | cons x r => rw [Lib.join_length, hs]; simp

end Go.Proofs.YbulkyfyFmt

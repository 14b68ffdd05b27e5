/-
  The map of pending ids as a proof sees it: its elements are nil slices; which keys it holds. Plain lemmas; nothing of the dump.
-/
import Derived.WalkKit
import Derived.WalkSpells
import Derived.Maps.OwnSet
import Derived.Maps.OwnOps
namespace Go.Proofs.Ybulkyha
open Go.RowKit Go.Maps

/-- How an element that is a nil slice reads. -/
def nilElem : Value → Option (DataW Unit × List MemPlace)
  | .slice none 0 0 => some (.nil, [])
  | _ => none
theorem nilElem_mk : nilElem (.slice none 0 0) = some (.nil, []) := rfl
theorem nilElem_inv {v : Value} {z : DataW Unit × List MemPlace} (h : nilElem v = some z) : v = .slice none 0 0 := by
  unfold nilElem at h
  split at h
  · rfl
  · cases h

/-- Is x among ys? -/
def memB (ys : List Int) (x : Int) : Bool := ys.contains x
theorem memB_nil (x : Int) : memB [] x = false := rfl
theorem memB_snoc (ys : List Int) (y x : Int) : memB (ys ++ [y]) x = (memB ys x || (x == y)) := by
  unfold memB
  simp [List.contains_eq_mem]
  rw [Bool.eq_iff_iff]
  simp
theorem memB_at (ys : List Int) (k : Nat) (hk : k < ys.length) (x : Int) (h : (ys[k] == x) = true) : memB ys x = true := by
  have e : ys[k] = x := by simpa using h
  subst e
  simp [memB]

/-- The map D holds just the keys of ys. -/
def Has (D : DataW Unit) (ys : List Int) : Prop := ∀ q : Int, Maps.has D (.int .u64 q) = memB ys q

theorem Has.made : Has (.map []) [] := fun _ => rfl
theorem Has.put {D : DataW Unit} {ys : List Int} (h : Has D ys) (hD : IsMap D) (x : Int) (d : DataW Unit) : Has (D.put (.int .u64 x) d) (ys ++ [x]) := by
  intro q
  by_cases e : q = x
  · subst e
    rw [has_put_same hD (by simp [WideAt.IsKeyLit]), memB_snoc]
    simp
  · rw [has_put_other (by simpa using e), h q, memB_snoc]
    simp [e]
theorem Has.del_same (D : DataW Unit) (d : Int) : Maps.has (D.del (.int .u64 d)) (.int .u64 d) = false := has_del_same
theorem Has.del_any {D : DataW Unit} {ys : List Int} (h : Has D ys) (d q : Int) : Maps.has (D.del (.int .u64 d)) (.int .u64 q) = (memB ys q && (q != d)) := by
  by_cases e : q = d
  · subst e
    rw [has_del_same]
    simp
  · rw [has_del_other (by simpa using e), h q]
    simp [e]

theorem take_snoc (zs : List Int) (k : Nat) (hk : k < zs.length) : zs.take (k + 1) = zs.take k ++ [zs.getD k 0] := by
  rw [List.take_add_one, List.getElem?_eq_getElem hk, List.getD_eq_getElem?_getD, List.getElem?_eq_getElem hk]
  rfl

end Go.Proofs.Ybulkyha

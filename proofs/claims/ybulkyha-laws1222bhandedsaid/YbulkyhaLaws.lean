/-
  LawS1222BMember (function 3) and LawS1222BHanded (function 4): the walks.
-/
import Derived.Test.YbulkyhaWalk
import Derived.OpenShut
namespace Go.Proofs.Ybulkyha
open Go.RowKit Go.Maps

/-- The cells of the ids: where there is one, they lie in a row at x. -/
def Cells (w : World) (x : Addr) (ys : List Int) : Prop := ∀ j, j < ys.length → ∃ b off, x = ⟨b, off, none⟩ ∧ b < w.heap.size ∧ w.cell? ⟨b, off + j, none⟩ = some (.int .u64 (ys.getD j 0))

theorem Cells.later {w w' : World} {B : Nat} {x : Addr} {ys : List Int} (h : Cells w x ys) (hB : w.heap.size ≤ B) (hb : Below B w w') : Cells w' x ys := by
  intro j hj
  obtain ⟨b, off, rfl, h1, h2⟩ := h j hj
  have := hb.size
  exact ⟨b, off, rfl, by omega, (hb.cell (by show b < B; omega)).trans h2⟩

theorem pick_any (x : Addr) (cap : Nat) (ys : List Int) (q s : Int) (w : World) (hlen : ys.length ≤ 1024) (hs : 0 ≤ s) (hs2 : s ≤ 255) (hx : (Lit.int .u64 q).wf = true) (hwf : ∀ y ∈ ys, (Lit.int .u64 y).wf = true) (hc : Cells w x ys) :
    Calls Yba.prog 7 #[.slice (some x) ys.length cap, .int .u64 q, .int .u8 s] w fun e w' => ∃ y, e = .returned (.int .u64 y) ∧ (Lit.int .u64 y).wf = true ∧ w' = w := by
  by_cases h0 : ys.length = 0
  · rw [h0]
    exact pick_zero _ cap q s w hs hs2 hx
  · obtain ⟨b, off, rfl, _, _⟩ := hc 0 (by omega)
    refine pick_some b off cap ys q s w hlen (by omega) hs hs2 hx hwf (fun j hj => ?_)
    obtain ⟨b', off', e, _, h⟩ := hc j hj
    cases e
    exact h

theorem has_any (x : Addr) (cap : Nat) (ys : List Int) (q : Int) (w : World) (hlen : ys.length ≤ 1024) (hc : Cells w x ys) :
    Calls Yba.prog 8 #[.slice (some x) ys.length cap, .int .u64 q] w fun e w' => e = .returned (.bool (memB ys q)) ∧ w' = w := by
  by_cases h0 : ys.length = 0
  · have e : ys = [] := List.eq_nil_of_length_eq_zero h0
    subst e
    exact has_zero _ cap q w
  · obtain ⟨b, off, rfl, _, _⟩ := hc 0 (by omega)
    refine has_some b off cap ys q w hlen (fun j hj => ?_)
    obtain ⟨b', off', e, _, h⟩ := hc j hj
    cases e
    exact h

/-- What the shell hands over, in the form that the walks ask. -/
theorem row_cells {w : World} {x : Addr} {len cap : Nat} {zs : List Int} (hlc : len ≤ cap) (hz : zs.length = cap) (hcell : ∀ i, i < zs.length → w.cell? (x.add i) = some (.int .u64 (zs.getD i 0))) (hwf : ∀ n ∈ zs, (Lit.int .u64 n).wf = true) :
    (zs.take len).length = len ∧ (∀ y ∈ zs.take len, (Lit.int .u64 y).wf = true) ∧ Cells w x (zs.take len) := by
  have hl : (zs.take len).length = len := by simp; omega
  refine ⟨hl, fun y hy => hwf y (List.mem_of_mem_take hy), fun j hj => ?_⟩
  have hj' : j < len := by omega
  obtain ⟨b, off, spot⟩ := x
  have h := hcell j (by omega)
  have hspot : spot = none := by
    have h' := World.cell?_spot h
    simpa [Addr.add] using World.cell?_spot (hcell 0 (by omega))
  subst hspot
  rw [Go.WideShapes.add_plain] at h
  refine ⟨b, off, rfl, World.block_lt_of_cell? _ _ h, ?_⟩
  rw [h]
  simp only [List.getD_eq_getElem?_getD, List.getElem?_take]
  rw [if_pos hj']

set_option maxHeartbeats 400000 in
theorem member_big (a : Option Addr) (len cap : Nat) (q s : Int) (b : Bool) (w : World) (hl : 1024 < len) (hl2 : len ≤ maxLen) :
    Calls Yba.prog 3 #[.slice a len cap, .int .u64 q, .int .u8 s, .bool b] w fun e w' => e = .returned (.bool true) ∧ Below w.heap.size w w' := by
  unfold maxLen at hl2
  go_enter Yba.func3, Yba.ntmps3
  go_wp2
  go_ret
  exact ⟨rfl, Below.refl _ _⟩

set_option maxHeartbeats 400000 in
theorem member_recv (a : Option Addr) (len cap : Nat) (q s : Int) (w : World) (hl : len ≤ 1024) :
    Calls Yba.prog 3 #[.slice a len cap, .int .u64 q, .int .u8 s, .bool true] w fun e w' => e = .returned (.bool true) ∧ Below w.heap.size w w' := by
  go_enter Yba.func3, Yba.ntmps3
  go_wp2_with (go_at_call 5; refine (awaits_none _ _).mono ?_; rintro e w' ⟨rfl, rfl⟩)
  go_ret
  exact ⟨rfl, Below.refl _ _⟩

set_option maxHeartbeats 400000 in
theorem member_nil (q s : Int) (w : World) (hs : 0 ≤ s) (hs2 : s ≤ 255) (hx : (Lit.int .u64 q).wf = true) :
    Calls Yba.prog 3 #[.slice none 0 0, .int .u64 q, .int .u8 s, .bool false] w fun e w' => e = .returned (.bool true) ∧ Below w.heap.size w w' := by
  go_enter Yba.func3, Yba.ntmps3
  go_wp2_with fail
  refine (build_nil _).mono ?_
  rintro e w1 ⟨rfl, hc1, hb1⟩
  go_wp2_with fail
  refine (pick_zero none 0 q s _ hs hs2 hx).mono ?_
  rintro e w2 ⟨y, rfl, hy, rfl⟩
  go_wp2_with fail
  refine (awaits_nilmap _ y _ hy hc1).mono ?_
  rintro e w3 ⟨rfl, rfl⟩
  go_wp2_with fail
  refine (has_zero none 0 y _).mono ?_
  rintro e w4 ⟨rfl, rfl⟩
  go_wp2
  go_ret
  exact ⟨rfl, hb1⟩

set_option maxHeartbeats 400000 in
theorem member_some (x : Addr) (cap : Nat) (ys : List Int) (q s : Int) (w : World) (hlen : ys.length ≤ 1024) (hs : 0 ≤ s) (hs2 : s ≤ 255) (hx : (Lit.int .u64 q).wf = true) (hwf : ∀ y ∈ ys, (Lit.int .u64 y).wf = true) (hc : Cells w x ys) :
    Calls Yba.prog 3 #[.slice (some x) ys.length cap, .int .u64 q, .int .u8 s, .bool false] w fun e w' => e = .returned (.bool true) ∧ Below w.heap.size w w' := by
  go_enter Yba.func3, Yba.ntmps3
  go_wp2_with fail
  refine (build_some x cap ys w hlen hwf hc).mono ?_
  rintro e w1 ⟨D, rfl, hc1, hown, HD, hb1⟩
  have hcs := hc.later (Nat.le_refl _) hb1
  go_wp2_with fail
  refine (pick_any x cap ys q s w1 hlen hs hs2 hx hwf hcs).mono ?_
  rintro e w2 ⟨y, rfl, hy, rfl⟩
  go_wp2_with fail
  refine (awaits_some _ _ _ D y _ hy hc1 hown).mono ?_
  rintro e w3 ⟨rfl, rfl⟩
  rw [HD y]
  go_wp2_with fail
  refine (has_any x cap ys y _ hlen hcs).mono ?_
  rintro e w4 ⟨rfl, rfl⟩
  go_wp2
  go_ret
  exact ⟨by simp, hb1⟩

set_option maxHeartbeats 400000 in
theorem handed_big (a : Option Addr) (len cap : Nat) (d q s t : Int) (w : World) (hl : 1024 < len) (hl2 : len ≤ maxLen) :
    Calls Yba.prog 4 #[.slice a len cap, .int .u64 d, .int .u64 q, .int .u8 s, .int .u8 t] w fun e w' => e = .returned (.bool true) ∧ Below w.heap.size w w' := by
  unfold maxLen at hl2
  go_enter Yba.func4, Yba.ntmps4
  go_wp2
  go_ret
  exact ⟨rfl, Below.refl _ _⟩

set_option maxHeartbeats 400000 in
theorem handed_nil (d q s t : Int) (w : World) (hs : 0 ≤ s) (hs2 : s ≤ 255) (ht : 0 ≤ t) (ht2 : t ≤ 255) (hd : (Lit.int .u64 d).wf = true) (hq : (Lit.int .u64 q).wf = true) :
    Calls Yba.prog 4 #[.slice none 0 0, .int .u64 d, .int .u64 q, .int .u8 s, .int .u8 t] w fun e w' => e = .returned (.bool true) ∧ Below w.heap.size w w' := by
  go_enter Yba.func4, Yba.ntmps4
  go_wp2_with fail
  refine (build_nil _).mono ?_
  rintro e w1 ⟨rfl, hc1, hb1⟩
  go_wp2_with fail
  refine (pick_zero none 0 d s _ hs hs2 hd).mono ?_
  rintro e w2 ⟨y, rfl, hy, rfl⟩
  go_wp2_with fail
  refine (pick_zero none 0 q t _ ht ht2 hq).mono ?_
  rintro e w2 ⟨z, rfl, hz, rfl⟩
  go_wp2_with fail
  refine (handed_nilmap _ y _ hy hc1).mono ?_
  rintro e w3 ⟨rfl, rfl⟩
  go_wp2_with fail
  refine (awaits_nilmap _ y _ hy hc1).mono ?_
  rintro e w3 ⟨rfl, rfl⟩
  go_wp2_with fail
  refine (has_zero none 0 z _).mono ?_
  rintro e w4 ⟨rfl, rfl⟩
  go_wp2_with fail
  refine (awaits_nilmap _ z _ hz hc1).mono ?_
  rintro e w3 ⟨rfl, rfl⟩
  go_wp2
  go_ret
  exact ⟨rfl, hb1⟩

set_option maxHeartbeats 400000 in
theorem handed_some4 (x : Addr) (cap : Nat) (ys : List Int) (d q s t : Int) (w : World) (hlen : ys.length ≤ 1024) (hs : 0 ≤ s) (hs2 : s ≤ 255) (ht : 0 ≤ t) (ht2 : t ≤ 255) (hd : (Lit.int .u64 d).wf = true) (hq : (Lit.int .u64 q).wf = true)
    (hwf : ∀ y ∈ ys, (Lit.int .u64 y).wf = true) (hc : Cells w x ys) :
    Calls Yba.prog 4 #[.slice (some x) ys.length cap, .int .u64 d, .int .u64 q, .int .u8 s, .int .u8 t] w fun e w' => e = .returned (.bool true) ∧ Below w.heap.size w w' := by
  go_enter Yba.func4, Yba.ntmps4
  go_wp2_with fail
  refine (build_some x cap ys w hlen hwf hc).mono ?_
  rintro e w1 ⟨D, rfl, hc1, hown, HD, hb1⟩
  have hcs := hc.later (Nat.le_refl _) hb1
  go_wp2_with fail
  refine (pick_any x cap ys d s w1 hlen hs hs2 hd hwf hcs).mono ?_
  rintro e w2 ⟨y, rfl, hy, rfl⟩
  go_wp2_with fail
  refine (pick_any x cap ys q t _ hlen ht ht2 hq hwf hcs).mono ?_
  rintro e w2 ⟨z, rfl, hz, rfl⟩
  go_wp2_with fail
  refine (handed_some _ _ _ D y _ hy hc1 hown).mono ?_
  rintro e w3 ⟨rfl, hown3, hgrow3⟩
  have hc3 : w3.cell? ⟨w.heap.size, 0, none⟩ = some (.map (some (w.heap.size + 1))) := hgrow3.cell hc1 (by simp)
  have hb3 : Below w.heap.size w w3 := hb1.grown hgrow3 hb1.size (fun j hj => by cases hj; omega)
  have hcs3 := hc.later (Nat.le_refl _) hb3
  have e1 := Has.del_same D y
  have e2 := HD.del_any y z
  have c5 : Calls Yba.prog 5 #[.pointer (some ⟨w.heap.size, 0, none⟩), .int .u64 y] w3 fun e w' => e = .returned (.bool false) ∧ w' = w3 := by
    have h := awaits_some _ _ _ _ y w3 hy hc3 hown3
    rw [e1] at h
    exact h
  have c6 : Calls Yba.prog 5 #[.pointer (some ⟨w.heap.size, 0, none⟩), .int .u64 z] w3 fun e w' => e = .returned (.bool (memB ys z && (z != y))) ∧ w' = w3 := by
    have h := awaits_some _ _ _ _ z w3 hz hc3 hown3
    rw [e2] at h
    exact h
  clear hown3 hgrow3 e1 e2 hown HD hc1 hcs
  go_wp2_with fail
  refine c5.mono ?_
  rintro e w4 ⟨rfl, rfl⟩
  go_wp2_with fail
  refine (has_any x cap ys z _ hlen hcs3).mono ?_
  rintro e w5 ⟨rfl, rfl⟩
  cases hm : memB ys z with
  | true =>
    rw [hm] at c6
    go_wp2_with fail
    refine c6.mono ?_
    rintro e w6 ⟨rfl, rfl⟩
    go_wp2
    go_ret
    exact ⟨by simp, hb3⟩
  | false =>
    rw [hm] at c6
    go_wp2_with fail
    refine c6.mono ?_
    rintro e w6 ⟨rfl, rfl⟩
    go_wp2
    go_ret
    exact ⟨by simp, hb3⟩

end Go.Proofs.Ybulkyha

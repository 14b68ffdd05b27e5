/-
  LawS1220CModel (function 3) itself.
-/
import Derived.Test.YbulkyfyModel
namespace Go.Proofs.Ybulkyfy
open Go.RowKit

set_option maxHeartbeats 400000 in
theorem law_some (b off cap : Nat) (ys : List Int) (q : Int) (n : Int) (w : World) (hlen : ys.length ≤ 1024) (hpos : ¬ ys.length = 0) (hq : 0 ≤ q) (hq2 : q < 18446744073709551616)
    (hb : b < w.heap.size) (hc : ∀ j, j < ys.length → w.cell? ⟨b, off + j, none⟩ = some (.int .u64 (ys.getD j 0))) :
    Calls Yba.prog 3 #[.slice (some ⟨b, off, none⟩) ys.length cap, .int .u64 q, .int .i64 n] w fun e w' => e = .returned (.bool true) ∧ Below w.heap.size w w' := by
  obtain ⟨i, he, hil⟩ : ∃ i : Nat, q % ((ys.length : Int) + 2) = (i : Int) ∧ i ≤ ys.length + 1 := by
    have h0 := Int.emod_nonneg q (b := (ys.length : Int) + 2) (by omega)
    have h1 := Int.emod_lt_of_pos q (b := (ys.length : Int) + 2) (by omega)
    exact ⟨(q % ((ys.length : Int) + 2)).toNat, by omega, by omega⟩
  obtain ⟨i0, hi, hz0, hz1, hz2⟩ := info_parts Yba.info51
  go_enter Yba.func3, Yba.ntmps3
  go_wp2_with (at_builtin; refine wpList_append_own _ rfl _ _ 22 rfl w.heap.size 51 i0 (.int .u64 0) 1 8 Yba.underlying22 hi hz0 hz1 hz2 rfl (by decide) _ _ _ rfl (World.ownsRow_nil _ _ _ _) ⟨b, off, none⟩ ys.length cap (ys.map (Value.int .u64)) rfl ?c0 ?c1 ?c2 ?c3 ?c4 ?c5 ?_)
  case c0 => simp
  case c1 =>
    intro j u hj
    obtain ⟨h1, rfl⟩ := getD_map_int hj
    rw [Addr.add_lit]; exact hc j h1
  case c2 => exact ints_oneCell _ _
  case c3 => unfold maxLen; omega
  case c4 => omega
  case c5 => exact Nat.le_refl _
  intro v' w1 hown hgrow _
  rcases own_ints hown with ⟨rfl, hy⟩ | ⟨g, cp, rfl, hg1, hg2, hg3, hg4, hg5⟩
  · exact absurd (by rw [hy]; rfl) hpos
  have hbel : Below w.heap.size w w1 := (Below.refl _ _).grown hgrow (Nat.le_refl _) (fun k hk => by simp [Value.ownBlock] at hk)
  have hsz := hbel.size
  go_wp2_with fail
  refine (nonzero_some (w1.heap.size + 1) w1.heap.size g 0 ys.length cp ys i n _ hlen hil ?n1 ?n2 ?n3 ?n4).mono ?_
  case n1 => simp
  case n2 => simp
  case n3 => simp; omega
  case n4 =>
    intro j hj
    rw [Nat.zero_add]
    rw [World.cell?_alloc_past _ _ _ (by simp; omega), World.cell?_alloc_past _ _ _ (by omega)]
    exact hg5 j hj
  rintro e w2 ⟨v2, rfl, hown2, hb2⟩
  have hbel2 : Below w.heap.size w w2 := ((hbel.alloc hsz _).alloc (by simp; omega) _).trans (hb2.mono (by simp; omega))
  have hsz2 := hbel2.size
  go_wp2_with fail
  refine (model_some b off ys.length cap ys i n w2 hlen hil (by omega) (fun j hj => (hbel2.cell (by exact hb)).trans (hc j hj))).mono ?_
  rintro e w3 ⟨v3, rfl, hown3, hb3⟩
  have o2 := own_later hown2 hb3 (Nat.zero_le _)
  have o3 := own_later hown3 (Below.refl _ _) (Nat.zero_le _)
  go_wp2_with fail
  have hgl := gather_len ys n (ys.length - i) i []
  simp only [List.length_nil, Nat.zero_add] at hgl
  refine (eq_true 0 v2 v3 _ w3 (by omega) o2 o3).mono ?_
  rintro e w4 ⟨rfl, hb4⟩
  go_wp2
  go_ret
  exact ⟨rfl, (hbel2.trans (hb3.mono hsz2)).trans (hb4.mono (by have := hb3.size; omega))⟩

set_option maxHeartbeats 400000 in
theorem law_zero (a : Option Addr) (cap : Nat) (q : Int) (n : Int) (w : World) (hq : 0 ≤ q) (hq2 : q < 18446744073709551616) :
    Calls Yba.prog 3 #[.slice a 0 cap, .int .u64 q, .int .i64 n] w fun e w' => e = .returned (.bool true) ∧ Below w.heap.size w w' := by
  obtain ⟨i, he, hil⟩ : ∃ i : Nat, q % 2 = (i : Int) ∧ i ≤ 1 := ⟨(q % 2).toNat, by omega, by omega⟩
  cases a with
  | none =>
    go_enter Yba.func3, Yba.ntmps3
    go_wp2_with fail
    refine (nonzero_zero (w.heap.size + 1) w.heap.size none 0 i n _ hil (by simp) (by simp)).mono ?_
    rintro e w2 ⟨rfl, rfl⟩
    go_wp2_with fail
    refine (model_zero _ _ i n _ hil).mono ?_
    rintro e w3 ⟨rfl, rfl⟩
    go_wp2_with fail
    refine (eq_true 0 _ _ [] _ (by simp) (World.ownsRow_nil _ _ _ _) (World.ownsRow_nil _ _ _ _)).mono ?_
    rintro e w4 ⟨rfl, hb4⟩
    go_wp2
    go_ret
    exact ⟨rfl, (((Below.refl _ _).alloc (Nat.le_refl _) _).alloc (by simp) _).trans (hb4.mono (by simp; omega))⟩
  | some x =>
    go_enter Yba.func3, Yba.ntmps3
    go_wp2_with fail
    refine (nonzero_zero (w.heap.size + 1) w.heap.size none 0 i n _ hil (by simp) (by simp)).mono ?_
    rintro e w2 ⟨rfl, rfl⟩
    go_wp2_with fail
    refine (model_zero _ _ i n _ hil).mono ?_
    rintro e w3 ⟨rfl, rfl⟩
    go_wp2_with fail
    refine (eq_true 0 _ _ [] _ (by simp) (World.ownsRow_nil _ _ _ _) (World.ownsRow_nil _ _ _ _)).mono ?_
    rintro e w4 ⟨rfl, hb4⟩
    go_wp2
    go_ret
    exact ⟨rfl, (((Below.refl _ _).alloc (Nat.le_refl _) _).alloc (by simp) _).trans (hb4.mono (by simp; omega))⟩

set_option maxHeartbeats 400000 in
theorem law_big (a : Option Addr) (len cap : Nat) (q : Int) (n : Int) (w : World) (hl : 1024 < len) (hl2 : len ≤ maxLen) :
    Calls Yba.prog 3 #[.slice a len cap, .int .u64 q, .int .i64 n] w fun e w' => e = .returned (.bool true) ∧ Below w.heap.size w w' := by
  unfold maxLen at hl2
  go_enter Yba.func3, Yba.ntmps3
  go_wp2
  go_ret
  exact ⟨rfl, Below.refl _ _⟩

end Go.Proofs.Ybulkyfy

/-
  LawS1226BCounter (function 3): the walk.
-/
import Derived.Test.YbulkyjeBuild2
import Derived.Deep.RegionHeld3
namespace Go.Proofs.Ybulkyje
open Go.RowKit Go.Sort

/-- What the law asks of the build at the arguments at hand. -/
def Builds (ids cs : Value) (w : World) : Prop := Calls Yba.prog 4 #[ids, cs] w fun e w' => ∃ lv cv, e = .returned (.agg #[.string ⟨#[]⟩, lv, cv]) ∧ Built w' lv cv ∧ Below w.heap.size w w'

/-- The stamp in its variable, the list's and the counters' cells. -/
structure Facts (v g capg g2 : Nat) (C : Strs) (zs : List Int) (w : World) : Prop where
  c0 : w.cell? ⟨v, 0, none⟩ = some (.string ⟨#[]⟩)
  c1 : w.cell? ⟨v, 1, none⟩ = some (.slice (some ⟨g, 0, none⟩) C.length capg)
  c2 : w.cell? ⟨v, 2, none⟩ = some (.slice (some ⟨g2, 0, none⟩) C.length C.length)
  hv : v < w.heap.size
  hg : g < w.heap.size
  hg2 : g2 < w.heap.size
  cs : ∀ j, j < C.length → w.cell? ⟨g, j, none⟩ = some (.string (strOf (C.getD j [])))
  ds : ∀ j, j < C.length → w.cell? ⟨g2, j, none⟩ = some (.int .u64 (zs.getD j 0))

theorem Facts.later {v g capg g2 : Nat} {C : Strs} {zs : List Int} {w w' : World} (h : Facts v g capg g2 C zs w) (hb : Below w.heap.size w w') : Facts v g capg g2 C zs w' := by
  have hs := hb.size
  have h1 := h.hv
  have h2 := h.hg
  have h3 := h.hg2
  exact ⟨(hb.cell (by exact h1)).trans h.c0, (hb.cell (by exact h1)).trans h.c1, (hb.cell (by exact h1)).trans h.c2, by omega, by omega, by omega, fun j hj => (hb.cell (by exact h2)).trans (h.cs j hj), fun j hj => (hb.cell (by exact h3)).trans (h.ds j hj)⟩

theorem Facts.drew {v g capg g2 : Nat} {C : Strs} {zs : List Int} {w : World} (h : Facts v g capg g2 C zs w) : Facts v g capg g2 C zs w.drew := ⟨h.c0, h.c1, h.c2, h.hv, h.hg, h.hg2, h.cs, h.ds⟩

theorem Facts.made {g capg g2 : Nat} {C : Strs} {zs : List Int} {w : World} (hg : g < w.heap.size) (hg2 : g2 < w.heap.size) (cs : ∀ j, j < C.length → w.cell? ⟨g, j, none⟩ = some (.string (strOf (C.getD j []))))
    (ds : ∀ j, j < C.length → w.cell? ⟨g2, j, none⟩ = some (.int .u64 (zs.getD j 0))) :
    Facts w.heap.size g capg g2 C zs (w.alloc (.cells #[.string ⟨#[]⟩, .slice (some ⟨g, 0, none⟩) C.length capg, .slice (some ⟨g2, 0, none⟩) C.length C.length] 27)) :=
  ⟨by simp, by simp, by simp, by simp, by simp; omega, by simp; omega, fun j hj => by rw [World.cell?_alloc_past _ _ _ (by exact hg)]; exact cs j hj, fun j hj => by rw [World.cell?_alloc_past _ _ _ (by exact hg2)]; exact ds j hj⟩

set_option maxHeartbeats 800000 in
set_option maxRecDepth 1000000 in
theorem law_small (a : Option Addr) (len cap : Nat) (cs : Value) (q : List UInt8) (w : World) (hlen : len ≤ 1024) (hB : Builds (.slice a len cap) cs w) :
    Calls Yba.prog 3 #[.slice a len cap, cs, .string (strOf q)] w fun e w' => e = .returned (.bool true) ∧ Below w.heap.size w w' := by
  unfold Builds at hB
  go_enter Yba.func3, Yba.ntmps3
  go_wp2_with fail
  refine hB.mono ?_
  rintro e w1 ⟨lv, cv, rfl, hbt, hb1⟩
  clear hB
  have hs1 := hb1.size
  rcases hbt with ⟨a1, cap1, a2, cap2, rfl, rfl⟩ | ⟨C, zs, g, capg, g2, hpos, hn, hasc, rfl, rfl, hg, hg2, hcs, hds⟩
  · go_wp2
    refine wp_loop_rounds 1 ?_
    rw [rounds_succ]
    go_wp2_with fail
    refine (counter_none _ _ _ _ _ _ ⟨_, _, _, rfl⟩).mono ?_
    rintro e w2 ⟨rfl, hb2⟩
    have r1 : w2.cell? ⟨w1.heap.size, 1, none⟩ = some (.slice a1 0 cap1) := by rw [hb2.cell (by simp)]; simp
    go_wp2
    refine wp_loop_rounds 1 ?_
    rw [rounds_succ]
    go_wp2
    go_ret
    exact ⟨rfl, (hb1.alloc hs1 _).trans (hb2.mono (by simp; omega))⟩
  · have HF := Facts.made (capg := capg) hg hg2 hcs hds
    have hb2 : Below w.heap.size w (w1.alloc (.cells #[.string ⟨#[]⟩, .slice (some ⟨g, 0, none⟩) C.length capg, .slice (some ⟨g2, 0, none⟩) C.length C.length] 27)) := hb1.alloc hs1 _
    clear hcs hds
    go_wp2
    go_loopw [22, 9, 8] (fun c x y wr => ∃ k : Nat, k ≤ C.length ∧ c = .int .i64 k ∧ y = .int .u64 0 ∧ Hid (∀ j, j < k → ¬ C.getD j [] = q) ∧ Facts w1.heap.size g capg g2 C zs wr ∧ Below w.heap.size w wr)
      (fun c _ _ _ => C.length - (intOf c).toNat)
    case atStart => exact ⟨0, Nat.zero_le _, rfl, rfl, (fun j hj => by omega), HF, hb2⟩
    case round =>
      obtain ⟨k, hk, rfl, rfl, HX, hF, hnx⟩ := hrel
      by_cases hlt : k < C.length
      · obtain ⟨s, hs⟩ : ∃ s, s = C.getD k [] := ⟨_, rfl⟩
        obtain ⟨z, hz⟩ : ∃ z, z = zs.getD k 0 := ⟨_, rfl⟩
        have c0 := hF.c0
        have c1 := hF.c1
        have c2 := hF.c2
        have d1 : wr.cell? ⟨g, k, none⟩ = some (.string (strOf s)) := by rw [hs]; exact hF.cs k hlt
        have d2 : wr.cell? ⟨g2, k, none⟩ = some (.int .u64 z) := by rw [hz]; exact hF.ds k hlt
        have b1 : (0 : Int) ≤ (k : Int) := by omega
        have b2 : (k : Int) < (C.length : Int) := by omega
        have HS : Hid (s = C.getD k []) := hs
        have HZ : Hid (z = zs.getD k 0) := hz
        clear hs hz
        by_cases he : s = q
        · have ht : ((strOf s).toList == (strOf q).toList) = true := by rw [he]; simp
          have HE : Hid (s = q) := he
          clear he
          go_wp2_with fail
          have hC := counter_hit ⟨#[]⟩ g capg g2 C.length C zs q wr hasc hn k hlt (HS.out.symm.trans HE.out) hF.hg hF.hg2 hF.cs hF.ds
          rw [← HZ.out] at hC
          refine hC.mono ?_
          rintro e w3 ⟨rfl, hb3⟩
          clear HS HE HZ ht HX hC
          have hF3 := hF.later hb3
          have hnx3 : Below w.heap.size w w3 := hnx.trans (hb3.mono hnx.size)
          have c13 := hF3.c1
          clear hF hb3 hnx
          go_wp2
          go_loopw [48, 10, 11] (fun c x y wr => ∃ k : Nat, k ≤ C.length ∧ c = .int .i64 k ∧ Facts w1.heap.size g capg g2 C zs wr ∧ Below w.heap.size w wr)
            (fun c _ _ _ => C.length - (intOf c).toNat)
          case atStart => exact ⟨0, Nat.zero_le _, rfl, hF3, hnx3⟩
          case round =>
            obtain ⟨m, hm, rfl, hFm, hnm⟩ := hrel
            by_cases hltm : m < C.length
            · obtain ⟨t, ht⟩ : ∃ t, t = C.getD m [] := ⟨_, rfl⟩
              obtain ⟨y, hy⟩ : ∃ y, y = zs.getD m 0 := ⟨_, rfl⟩
              have m0 := hFm.c0
              have m1 := hFm.c1
              have m2 := hFm.c2
              have n1 : wr.cell? ⟨g, m, none⟩ = some (.string (strOf t)) := by rw [ht]; exact hFm.cs m hltm
              have n2 : wr.cell? ⟨g2, m, none⟩ = some (.int .u64 y) := by rw [hy]; exact hFm.ds m hltm
              have b1 : (0 : Int) ≤ (m : Int) := by omega
              have b2 : (m : Int) < (C.length : Int) := by omega
              have hC := counter_hit ⟨#[]⟩ g capg g2 C.length C zs t wr.drew hasc hn m hltm ht.symm hFm.hg hFm.hg2 hFm.cs hFm.ds
              rw [← hy] at hC
              have lv := hFm.hv
              have lg2 := hFm.hg2
              clear ht hy
              go_wp2
              go_region_held3 (fun w' => w'.cell? ⟨w1.heap.size, 0, none⟩ = some (.string ⟨#[]⟩) ∧ w'.cell? ⟨w1.heap.size, 1, none⟩ = some (.slice (some ⟨g, 0, none⟩) C.length capg) ∧ w'.cell? ⟨w1.heap.size, 2, none⟩ = some (.slice (some ⟨g2, 0, none⟩) C.length C.length) ∧ w'.cell? ⟨g2, m, none⟩ = some (.int .u64 y)) (first | go_keep | (refine ⟨?_, ?_, ?_, ?_⟩; (rw [hb4.cell (by exact lv)]; exact m0); (rw [hb4.cell (by exact lv)]; exact m1); (rw [hb4.cell (by exact lv)]; exact m2); (rw [hb4.cell (by exact lg2)]; exact n2))) ((go_at_call 5; refine hC.mono ?_; rintro e w4 ⟨rfl, hb4⟩))
              have hF4 := hFm.drew.later hb4
              have hn4 : Below w.heap.size w w4 := hnm.drew.trans (hb4.mono hnm.size)
              clear hC hb4
              go_wp2
              go_roundw
              case rel => exact ⟨m + 1, by omega, by go_num, hF4, hn4⟩
              case measure => simp [intOf]; omega
            · go_wp2
              go_ret
              exact ⟨rfl, hnm⟩
        · have ht : ((strOf s).toList == (strOf q).toList) = false := by
            rw [Lib.toList_data, Lib.toList_data]
            simpa [strOf] using he
          have HX' : Hid (∀ j, j < k + 1 → ¬ C.getD j [] = q) := by
            intro j hj
            by_cases e : j = k
            · rw [e, ← HS.out]; exact he
            · exact HX.out j (by omega)
          clear he
          go_wp2
          go_roundw
          case rel => exact ⟨k + 1, by omega, by go_num, rfl, HX', hF, hnx⟩
          case measure => simp [intOf]; omega
      · have c0 := hF.c0
        have c1 := hF.c1
        have c2 := hF.c2
        go_wp2_with fail
        refine (counter_miss ⟨#[]⟩ g capg _ C q wr ⟨_, _, _, rfl⟩ hn (fun j hj => HX.out j (by omega)) hF.hg hF.cs).mono ?_
        rintro e w3 ⟨rfl, hb3⟩
        clear HX
        have hF3 := hF.later hb3
        have hnx3 : Below w.heap.size w w3 := hnx.trans (hb3.mono hnx.size)
        have c13 := hF3.c1
        clear hF hb3 hnx
        go_wp2
        go_loopw [48, 10, 11] (fun c x y wr => ∃ k : Nat, k ≤ C.length ∧ c = .int .i64 k ∧ Facts w1.heap.size g capg g2 C zs wr ∧ Below w.heap.size w wr)
          (fun c _ _ _ => C.length - (intOf c).toNat)
        case atStart => exact ⟨0, Nat.zero_le _, rfl, hF3, hnx3⟩
        case round =>
          obtain ⟨m, hm, rfl, hFm, hnm⟩ := hrel
          by_cases hltm : m < C.length
          · obtain ⟨t, ht⟩ : ∃ t, t = C.getD m [] := ⟨_, rfl⟩
            obtain ⟨y, hy⟩ : ∃ y, y = zs.getD m 0 := ⟨_, rfl⟩
            have m0 := hFm.c0
            have m1 := hFm.c1
            have m2 := hFm.c2
            have n1 : wr.cell? ⟨g, m, none⟩ = some (.string (strOf t)) := by rw [ht]; exact hFm.cs m hltm
            have n2 : wr.cell? ⟨g2, m, none⟩ = some (.int .u64 y) := by rw [hy]; exact hFm.ds m hltm
            have b1 : (0 : Int) ≤ (m : Int) := by omega
            have b2 : (m : Int) < (C.length : Int) := by omega
            have hC := counter_hit ⟨#[]⟩ g capg g2 C.length C zs t wr.drew hasc hn m hltm ht.symm hFm.hg hFm.hg2 hFm.cs hFm.ds
            rw [← hy] at hC
            have lv := hFm.hv
            have lg2 := hFm.hg2
            clear ht hy
            go_wp2
            go_region_held3 (fun w' => w'.cell? ⟨w1.heap.size, 0, none⟩ = some (.string ⟨#[]⟩) ∧ w'.cell? ⟨w1.heap.size, 1, none⟩ = some (.slice (some ⟨g, 0, none⟩) C.length capg) ∧ w'.cell? ⟨w1.heap.size, 2, none⟩ = some (.slice (some ⟨g2, 0, none⟩) C.length C.length) ∧ w'.cell? ⟨g2, m, none⟩ = some (.int .u64 y)) (first | go_keep | (refine ⟨?_, ?_, ?_, ?_⟩; (rw [hb4.cell (by exact lv)]; exact m0); (rw [hb4.cell (by exact lv)]; exact m1); (rw [hb4.cell (by exact lv)]; exact m2); (rw [hb4.cell (by exact lg2)]; exact n2))) ((go_at_call 5; refine hC.mono ?_; rintro e w4 ⟨rfl, hb4⟩))
            have hF4 := hFm.drew.later hb4
            have hn4 : Below w.heap.size w w4 := hnm.drew.trans (hb4.mono hnm.size)
            clear hC hb4
            go_wp2
            go_roundw
            case rel => exact ⟨m + 1, by omega, by go_num, hF4, hn4⟩
            case measure => simp [intOf]; omega
          · go_wp2
            go_ret
            exact ⟨rfl, hnm⟩

set_option maxHeartbeats 400000 in
theorem law_big (a : Option Addr) (len cap : Nat) (cs q : Value) (w : World) (hl : 1024 < len) (hl2 : len ≤ 9223372036854775807) :
    Calls Yba.prog 3 #[.slice a len cap, cs, q] w fun e w' => e = .returned (.bool true) ∧ Below w.heap.size w w' := by
  go_enter Yba.func3, Yba.ntmps3
  go_wp2
  go_ret
  exact ⟨rfl, Below.refl _ _⟩

end Go.Proofs.Ybulkyje

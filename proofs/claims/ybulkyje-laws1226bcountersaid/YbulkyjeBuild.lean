/-
  zzs1226bbuild (function 4): the walk. The library's Clone, Sort and Compact by their contracts, said of a row that the call owns.
-/
import Derived.Test.YbulkyjeCounter
import Derived.Sort.OwnSorted
import Derived.Sort.Grow
import Derived.Lib.OwnBridge
namespace Go.Proofs.Ybulkyje
open Go.RowKit Go.Sort

theorem Yba.info29 : (Yba.prog.info? 29).map (fun i => (i.zero, i.size, i.bytes)) = some (some (.int .u64 0), 1, 8) := by kernel_rfl

/-- slices.Sort of a row that the call owns. -/
theorem sort_own (B g n cap : Nat) (ss : Strs) (w : World) (hown : w.ownsRow B 9 1 (.slice (some ⟨g, 0, none⟩) n cap) n (ss.map encStr)) (hn : n ≤ 1024) :
    Calls Yba.prog 7 #[.slice (some ⟨g, 0, none⟩) n cap] w fun e w' => e = .returned (.tuple #[]) ∧ w'.ownsRow B 9 1 (.slice (some ⟨g, 0, none⟩) n cap) n ((ss.mergeSort fun x y => decide (x ≤ y)).map encStr) ∧ w.grownBy w' (some g) := by
  obtain ⟨g', cap', hv, _, hgl, _, _, hlen, hH⟩ := Lib.holds_of_ownsRow hown (by simp)
  cases hv
  have hs := Yba.slices_Sort_string g 0 cap ss w hH hgl (by omega)
  rw [hlen] at hs
  refine hs.mono ?_
  rintro e w' ⟨rfl, nd, os, rfl⟩
  refine ⟨rfl, ?_, grownBy_sorted _⟩
  subst hlen
  rcases hown.2 with ⟨h0, _⟩ | ⟨g', cap', cur, hv, hbase, hb, h1, h2, h3, h4⟩
  · cases h0
  cases hv
  exact ownsRow_sorted (List.length_mergeSort ss) hbase hb h1 h2 h3

/-- slices.Compact of a row that the call owns. -/
theorem compact_own (B g n cap : Nat) (zs : Strs) (w : World) (hown : w.ownsRow B 9 1 (.slice (some ⟨g, 0, none⟩) n cap) n (zs.map encStr)) (hn : n ≤ 1024) :
    Calls Yba.prog 8 #[.slice (some ⟨g, 0, none⟩) n cap] w fun e w' => e = .returned (.slice (some ⟨g, 0, none⟩) (Lib.compact zs).length cap) ∧ w'.ownsRow B 9 1 (.slice (some ⟨g, 0, none⟩) (Lib.compact zs).length cap) (Lib.compact zs).length ((Lib.compact zs).map encStr) ∧ w.grownBy w' (some g) := by
  obtain ⟨g', cap', hv, _, hgl, hnc, _, hlen, hH⟩ := Lib.holds_of_ownsRow hown (by simp)
  cases hv
  have hle := Lib.compact_length_le zs
  have hs := Yba.slices_Compact_string g 0 cap zs w hH (by omega) (by omega)
  rw [hlen] at hs
  refine hs.mono ?_
  rintro e w' ⟨rfl, q, rfl⟩
  have hc := Lib.ownsRow_putRow (q := q) (k := (Lib.compact zs).length) (ys := Lib.compact zs ++ List.replicate (n - (Lib.compact zs).length) []) hown (by simp; omega) (by omega)
  rw [List.take_left] at hc
  refine ⟨rfl, hc, ?_⟩
  refine ⟨rfl, rfl, rfl, by simp [putRow, mapBlock, Sort.ahead], fun k hk hne => ?_⟩
  have hgk : g ≠ k := fun e => hne (by rw [e])
  simp [putRow, mapBlock, Sort.ahead, Array.getElem?_modify, hgk]

/-- What is built: the list ascends; each of its strings has a counter; the cells where they lie. -/
def Built (w' : World) (lv cv : Value) : Prop :=
  (∃ a cap a2 cap2, lv = .slice a 0 cap ∧ cv = .slice a2 0 cap2) ∨
  ∃ (C : Strs) (cs : List Int) (g cap g2 : Nat), 0 < C.length ∧ C.length ≤ 1024 ∧ C.Pairwise (· < ·) ∧ lv = .slice (some ⟨g, 0, none⟩) C.length cap ∧ cv = .slice (some ⟨g2, 0, none⟩) C.length C.length ∧ g < w'.heap.size ∧ g2 < w'.heap.size ∧
    (∀ j, j < C.length → w'.cell? ⟨g, j, none⟩ = some (.string (strOf (C.getD j [])))) ∧ ∀ j, j < C.length → w'.cell? ⟨g2, j, none⟩ = some (.int .u64 (cs.getD j 0))

/-- A cell of another block, behind three stores into one block. -/
theorem cell_past3 (w : World) {b g : Nat} (h : b ≠ g) {o1 o2 o3 j : Nat} {x y z : Value} : (((w.setCell ⟨b, o1, none⟩ x).setCell ⟨b, o2, none⟩ y).setCell ⟨b, o3, none⟩ z).cell? ⟨g, j, none⟩ = w.cell? ⟨g, j, none⟩ := by
  have hne : ∀ o, (⟨g, j, none⟩ : Addr) ≠ ⟨b, o, none⟩ := fun o e => h (by cases e; rfl)
  rw [World.cell?_setCell_other _ _ _ _ (by first | exact hne _ | exact (hne _).symm), World.cell?_setCell_other _ _ _ _ (by first | exact hne _ | exact (hne _).symm), World.cell?_setCell_other _ _ _ _ (by first | exact hne _ | exact (hne _).symm)]

/-- A counter stored. -/
theorem rel_store {w3 wr : World} {k n : Nat} {zs : List Int} (z : Int) (hown : wr.ownsRow w3.heap.size 29 1 (.slice (some ⟨w3.heap.size, 0, none⟩) n n) n (zs.map (Value.int .u64))) (hnx : Below w3.heap.size w3 wr) :
    (wr.setCell ⟨w3.heap.size, k, none⟩ (.int .u64 z)).ownsRow w3.heap.size 29 1 (.slice (some ⟨w3.heap.size, 0, none⟩) n n) n ((zs.set k z).map (Value.int .u64)) ∧ Below w3.heap.size w3 (wr.setCell ⟨w3.heap.size, k, none⟩ (.int .u64 z)) := by
  refine ⟨?_, hnx.setCell (Nat.le_refl _) _⟩
  rw [List.map_set]
  exact (hown.stored k _).1

set_option maxHeartbeats 800000 in
set_option maxRecDepth 1000000 in
theorem build_some (arg : Value) (n nv cv : Nat) (a2 : Option Addr) (ss : Strs) (vs : List Int) (w : World) (hn : n ≤ 1024) (hnv : nv ≤ 9223372036854775807)
    (hv : ∀ j, j < nv → ∃ b2 off2, a2 = some ⟨b2, off2, none⟩ ∧ b2 < w.heap.size ∧ w.cell? ⟨b2, off2 + j, none⟩ = some (.int .u64 (vs.getD j 0)))
    (hclone : ∀ o, Calls Yba.prog 6 #[arg] (w.alloc o) fun e w' => ∃ v', e = .returned v' ∧ w'.ownsRow (w.heap.size + 1) 9 1 v' n (ss.map encStr) ∧ v' ≠ .slice none 0 0 ∧ Below (w.heap.size + 1) (w.alloc o) w') :
    Calls Yba.prog 4 #[arg, .slice a2 nv cv] w fun e w' => ∃ lv cv, e = .returned (.agg #[.string ⟨#[]⟩, lv, cv]) ∧ Built w' lv cv ∧ Below w.heap.size w w' := by
  obtain ⟨i0, hi, hz0, hz1, hz2⟩ := info_parts Yba.info29
  obtain ⟨w0, hw0⟩ : ∃ w0, w0 = w.alloc (.cells #[.string ⟨#[]⟩, .slice none 0 0, .slice none 0 0] 27) := ⟨_, rfl⟩
  have hcl := hclone (.cells #[.string ⟨#[]⟩, .slice none 0 0, .slice none 0 0] 27)
  have hw0b : Below w.heap.size w w0 := by rw [hw0]; exact (Below.refl _ _).alloc (Nat.le_refl _) _
  have hw0s : w0.heap.size = w.heap.size + 1 := by rw [hw0]; simp
  have q0 : w0.cell? ⟨w.heap.size, 0, none⟩ = some (.string ⟨#[]⟩) := by rw [hw0]; simp
  have q1 : w0.cell? ⟨w.heap.size, 1, none⟩ = some (.slice none 0 0) := by rw [hw0]; simp
  have q2 : w0.cell? ⟨w.heap.size, 2, none⟩ = some (.slice none 0 0) := by rw [hw0]; simp
  have f0 : ∀ j, w0.frozen? ⟨w.heap.size, j, none⟩ = false := fun j => by rw [hw0]; simp
  rw [← hw0] at hcl
  have HW : Hid (w0 = w.alloc (.cells #[.string ⟨#[]⟩, .slice none 0 0, .slice none 0 0] 27)) := hw0
  clear hclone hw0
  go_enter Yba.func4, Yba.ntmps4
  go_wp2_with fail
  rw [← HW.out]
  refine hcl.mono ?_
  rintro e w1 ⟨v1, rfl, hown, hnn, hb1⟩
  clear hcl
  obtain ⟨g, cap, rfl, hbg, hgl, hncap, hcm, hlen, _⟩ := Lib.holds_of_ownsRow hown hnn
  go_wp2_with fail
  refine (sort_own (w.heap.size + 1) g n cap ss w1 hown hn).mono ?_
  rintro e w2 ⟨rfl, hown2, hg2⟩
  have hb2 : Below (w.heap.size + 1) w0 w2 := hb1.grown hg2 (by have := hb1.size; omega) (fun j hj => by cases hj; exact hbg)
  clear hown hnn hb1 hg2
  go_wp2_with fail
  refine (compact_own (w.heap.size + 1) g n cap _ w2 hown2 hn).mono ?_
  rintro e w3 ⟨rfl, hown3, hg3⟩
  have hb3 : Below (w.heap.size + 1) w0 w3 := hb2.grown hg3 (by have := hb2.size; omega) (fun j hj => by cases hj; exact hbg)
  clear hown2 hb2 hg3
  have hasc := uniq_asc ss
  have hul := uniq_len ss
  unfold uniq at hasc hul
  obtain ⟨C, hC⟩ : ∃ C, C = Lib.compact (ss.mergeSort fun x y => decide (x ≤ y)) := ⟨_, rfl⟩
  rw [← hC] at hown3 hasc hul ⊢
  clear hC
  have hs3 := hb3.size
  have hgl3 : g < w3.heap.size := (hown3.lt g rfl).2
  go_wp2_with (at_make; refine wpList_make_full _ rfl _ _ 23 rfl w3.heap.size 29 i0 _ 1 Yba.underlying23 hi hz0 hz1 _ _ _ _ C.length rfl rfl rfl rfl (by rw [hz2]; omega) (by unfold maxLen; omega) (Nat.le_refl _) ?_)
  intro w4 hown4 hgrow4
  have hb4 : Below w3.heap.size w3 w4 := (Below.refl _ _).grown hgrow4 (Nat.le_refl _) (fun k hk => by simp at hk)
  clear hgrow4
  go_wp2
  go_loopw [20, 7, 8] (fun c x y wr => ∃ (k : Nat) (zs : List Int), k ≤ C.length ∧ c = .int .i64 k ∧ zs.length = C.length ∧ wr.ownsRow w3.heap.size 29 1 (.slice (some ⟨w3.heap.size, 0, none⟩) C.length C.length) C.length (zs.map (Value.int .u64)) ∧ Below w3.heap.size w3 wr)
    (fun c _ _ _ => C.length - (intOf c).toNat)
  case atStart =>
    refine ⟨0, List.replicate C.length 0, Nat.zero_le _, rfl, by simp, ?_, hb4⟩
    have e : (madeCells (#[Value.int .u64 0]) C.length).toList = (List.replicate C.length (0 : Int)).map (Value.int .u64) := by rw [toList_madeCells_one]; simp
    rw [← e]
    simpa using hown4
  case round =>
    obtain ⟨k, zs, hk, rfl, hzl, hownr, hnx⟩ := hrel
    by_cases hlt : k < C.length
    · have hsz : w3.heap.size < wr.heap.size := (hownr.lt _ rfl).2
      obtain ⟨old, hold⟩ : ∃ old, (zs.map (Value.int .u64))[k]? = some old := ⟨_, List.getElem?_eq_getElem (by simp; omega)⟩
      have e1 : wr.cell? ⟨w3.heap.size, k, none⟩ = some old := (hownr.cellAt k (by omega)).trans hold
      have e2 : wr.frozen? ⟨w3.heap.size, k, none⟩ = false := hownr.frozenAt k
      have b1 : (0 : Int) ≤ (k : Int) := by omega
      have b2 : (k : Int) < (C.length : Int) := by omega
      by_cases hkv : k < nv
      · obtain ⟨b2, off2, rfl, hbb, hvx⟩ := hv k hkv
        obtain ⟨z, hz⟩ : ∃ z, z = vs.getD k 0 := ⟨_, rfl⟩
        have d1 : wr.cell? ⟨b2, off2 + k, none⟩ = some (.int .u64 z) := by
          rw [hz]
          exact (hnx.cell (by show b2 < _; omega)).trans ((hb3.cell (by show b2 < _; omega)).trans ((hw0b.cell (by exact hbb)).trans hvx))
        clear hz hvx
        go_wp2
        · have R := rel_store (k := k) z hownr hnx
          go_roundw
          case rel => exact ⟨k + 1, _, by omega, by go_num, by simpa using hzl, R.1, R.2⟩
          case measure => simp [intOf]; omega
        · have R := rel_store (k := k) ((k : Int) + 1) hownr hnx
          go_roundw
          case rel => exact ⟨k + 1, _, by omega, by go_num, by simpa using hzl, R.1, R.2⟩
          case measure => simp [intOf]; omega
      · have R := rel_store (k := k) ((k : Int) + 1) hownr hnx
        go_wp2
        go_roundw
        case rel => exact ⟨k + 1, _, by omega, by go_num, by simpa using hzl, R.1, R.2⟩
        case measure => simp [intOf]; omega
    · have hbr : Below (w.heap.size + 1) w0 wr := hb3.trans (hnx.mono (by omega))
      have r0 : wr.cell? ⟨w.heap.size, 0, none⟩ = some (.string ⟨#[]⟩) := (hbr.cell (by show w.heap.size < _; omega)).trans q0
      have r1 : wr.cell? ⟨w.heap.size, 1, none⟩ = some (.slice none 0 0) := (hbr.cell (by show w.heap.size < _; omega)).trans q1
      have r2 : wr.cell? ⟨w.heap.size, 2, none⟩ = some (.slice none 0 0) := (hbr.cell (by show w.heap.size < _; omega)).trans q2
      have g0 : ∀ j, wr.frozen? ⟨w.heap.size, j, none⟩ = false := fun j => (hbr.frozen (by show w.heap.size < _; omega)).trans (f0 j)
      have hsz : w3.heap.size < wr.heap.size := (hownr.lt _ rfl).2
      go_wp2
      refine bodyPost_ret (v := .agg #[.string ⟨#[]⟩, .slice (some ⟨g, 0, none⟩) C.length cap, .slice (some ⟨w3.heap.size, 0, none⟩) C.length C.length]) (by simp [results, Yba.results4, go_sem, r0, r1, r2]) rfl ⟨_, _, rfl, ?_, ?_⟩
      · by_cases h0 : C.length = 0
        · exact .inl ⟨_, _, _, _, by rw [h0], by rw [h0]⟩
        · refine .inr ⟨C, zs, g, cap, w3.heap.size, by omega, by omega, hasc, rfl, rfl, ?_, ?_, fun j hj => ?_, fun j hj => ?_⟩
          · simp [World.setCell]; omega
          · simp [World.setCell]; omega
          · rw [cell_past3 wr (show w.heap.size ≠ g by omega)]
            rw [hnx.cell (by exact hgl3), hown3.cellAt j (by omega)]
            rw [List.getElem?_map, List.getElem?_eq_getElem (by omega), List.getD_eq_getElem?_getD, List.getElem?_eq_getElem (by omega)]
            rfl
          · rw [cell_past3 wr (show w.heap.size ≠ w3.heap.size by omega)]
            rw [hownr.cellAt j (by omega)]
            rw [List.getElem?_map, List.getElem?_eq_getElem (by omega), List.getD_eq_getElem?_getD, List.getElem?_eq_getElem (by omega)]
            rfl
      · exact ((((hw0b.trans (hbr.mono (by omega))).setCell (Nat.le_refl _) _).setCell (Nat.le_refl _) _).setCell (Nat.le_refl _) _)

end Go.Proofs.Ybulkyje

/-
  zzs1220abuild (function 6): the walk.
-/
import Derived.Test.YbulkyfyFmtRows
import Derived.Test.YbulkyfyFmtParts
import Derived.WalkLawsBesides
import Derived.Lib.SliceRun
namespace Go.Proofs.YbulkyfyFmt
open Go.RowKit

theorem Ybaf.info33 : (Ybaf.prog.info? 33).map (fun i => (i.zero, i.size, i.bytes)) = some (some (.agg #[.string ⟨#[]⟩, .nilIface]), 2, 32) := by kernel_rfl

set_option maxHeartbeats 800000 in
set_option maxRecDepth 1000000 in
theorem build_some (nm : ByteArray) (b off len cap b2 off2 nv cv : Nat) (ls : List ByteArray) (vs : List Int) (w : World) (hlen : len ≤ 1024) (_hnv : nv ≤ 1024) (hpos : 0 < len)
    (hb : b < w.heap.size) (hb2 : b2 < w.heap.size) (hc : ∀ j, j < len → w.cell? ⟨b, off + j, none⟩ = some (.string (ls.getD j ByteArray.empty)))
    (hv : ∀ j, j < nv → w.cell? ⟨b2, off2 + j, none⟩ = some (.int .i64 (vs.getD j 0))) (hwf : ∀ j, j < nv → (Lit.int .i64 (vs.getD j 0)).wf = true) :
    Calls Ybaf.prog 6 #[.string nm, .slice (some ⟨b, off, none⟩) len cap, .slice (some ⟨b2, off2, none⟩) nv cv] w fun e w' =>
      ∃ v P, e = .returned (.agg #[.string nm, v]) ∧ w'.ownsRow w.heap.size 33 2 v len (cellsTo P len) ∧ (∀ j, (Lit.int .i64 (P j).2).wf = true) ∧ Below w.heap.size w w' := by
  obtain ⟨i0, hi, hz0, hz1, hz2⟩ := info_parts Ybaf.info33
  have hsn := fun (w : World) (a : Option Addr) (n c : Nat) => Lib.run_eql_slice_nil (P := Ybaf.prog) w 27 9 a n c 0 0 Ybaf.underlying27
  go_enter Ybaf.func6, Ybaf.ntmps6
  obtain ⟨w0, hw0⟩ : ∃ w0, w0 = w.alloc (.cells #[.string ⟨#[]⟩, .slice none 0 0] 24) := ⟨_, rfl⟩
  go_wp2_with (at_make; refine wpList_make_own _ rfl _ _ 22 rfl (w.heap.size + 1) 33 i0 _ 2 Ybaf.underlying22 hi hz0 hz1 _ _ _ len rfl rfl (by omega) (by rw [hz2]; omega) (by unfold maxLen; omega) (by simp) ?_)
  intro w1 hown0 hgrow0
  have hnx0 : Below (w.heap.size + 1) w0 w1 := by rw [hw0]; exact (Below.refl _ _).grown hgrow0 (by simp) (fun k hk => by simp at hk)
  have hw0b : Below w.heap.size w w0 := by rw [hw0]; exact (Below.refl _ _).alloc (Nat.le_refl _) _
  have hw0s : w0.heap.size = w.heap.size + 1 := by rw [hw0]; simp
  have q0 : w0.cell? ⟨w.heap.size, 0, none⟩ = some (.string ⟨#[]⟩) := by rw [hw0]; simp
  have q1 : w0.cell? ⟨w.heap.size, 1, none⟩ = some (.slice none 0 0) := by rw [hw0]; simp
  have f0 : w0.frozen? ⟨w.heap.size, 0, none⟩ = false := by rw [hw0]; simp
  have f1 : w0.frozen? ⟨w.heap.size, 1, none⟩ = false := by rw [hw0]; simp
  clear hw0 hgrow0
  obtain ⟨P, hP⟩ : ∃ P : Nat → ByteArray × Int, P = fun j => (ls.getD j ByteArray.empty, if j < nv then vs.getD j 0 else 0) := ⟨_, rfl⟩
  have HP : Hid (P = fun j => (ls.getD j ByteArray.empty, if j < nv then vs.getD j 0 else 0)) := hP
  have HW : Hid (∀ j, (Lit.int .i64 (P j).2).wf = true) := by
    intro j
    rw [hP]
    by_cases hj : j < nv
    · simp only [if_pos hj]; exact hwf j hj
    · simp only [if_neg hj]; rfl
  clear hP hwf
  go_wp2
  go_loopw [7, 8, 9] (fun v c x wr => ∃ (j : Nat), j ≤ len ∧ c = .int .i64 j ∧ wr.ownsRow (w.heap.size + 1) 33 2 v j (cellsTo P j) ∧ Below (w.heap.size + 1) w0 wr)
    (fun _ c _ _ => len - (intOf c).toNat)
  case atStart => exact ⟨0, Nat.zero_le _, rfl, hown0, hnx0⟩
  case round =>
    obtain ⟨j, hj, rfl, hown, hnx⟩ := hrel
    obtain ⟨va, vcap, rfl⟩ := own_form2 hown
    by_cases hlt : j < len
    · have hcx : wr.cell? ⟨b, off + j, none⟩ = some (.string (P j).1) := (hnx.cell (by show b < _; omega)).trans ((hw0b.cell (by exact hb)).trans (by rw [HP.out]; exact hc j hlt))
      by_cases hjv : j < nv
      · have hvx : wr.cell? ⟨b2, off2 + j, none⟩ = some (.int .i64 (P j).2) := (hnx.cell (by show b2 < _; omega)).trans ((hw0b.cell (by exact hb2)).trans (by rw [HP.out]; simp only; rw [if_pos hjv]; exact hv j hjv))
        go_wp2_with (at_builtin; refine wpList_append_own _ rfl _ _ 22 rfl (w.heap.size + 1) 33 i0 (.agg #[.string ⟨#[]⟩, .nilIface]) 2 32 Ybaf.underlying22 hi hz0 hz1 hz2 rfl (by decide) _ _ _ rfl (hown.alloc _) ⟨wr.heap.size, 0, none⟩ 1 1 [.string (P j).1, .iface 2 (.int .i64 (P j).2)] rfl rfl ?c1 ?c2 ?c3 ?c4 ?c5 ?_)
        case c1 =>
          intro i u hi
          match i, hi with
          | 0, hi => simp at hi; subst hi; simp [Addr.add]
          | 1, hi => simp at hi; subst hi; simp [Addr.add]
        case c2 => intro u hu; simp at hu; rcases hu with rfl | rfl <;> rfl
        case c3 => unfold maxLen; omega
        case c4 => omega
        case c5 => have := hnx.size; simp; omega
        intro v' w2 hown' hgrow _
        have R := rel_draw (by have := hnx.size; omega) hown hnx hown' hgrow
        clear hown' hgrow hown hcx
        go_wp2
        go_roundw
        case rel => exact ⟨j + 1, by omega, by go_num, R.1, R.2⟩
        case measure => simp [intOf]; omega
      · go_wp2_with (at_builtin; refine wpList_append_own _ rfl _ _ 22 rfl (w.heap.size + 1) 33 i0 (.agg #[.string ⟨#[]⟩, .nilIface]) 2 32 Ybaf.underlying22 hi hz0 hz1 hz2 rfl (by decide) _ _ _ rfl (hown.alloc _) ⟨wr.heap.size, 0, none⟩ 1 1 [.string (P j).1, .iface 2 (.int .i64 0)] rfl rfl ?d1 ?d2 ?d3 ?d4 ?d5 ?_)
        case d1 =>
          intro i u hi
          match i, hi with
          | 0, hi => simp at hi; subst hi; simp [Addr.add]
          | 1, hi => simp at hi; subst hi; simp [Addr.add]
        case d2 => intro u hu; simp at hu; rcases hu with rfl | rfl <;> rfl
        case d3 => unfold maxLen; omega
        case d4 => omega
        case d5 => have := hnx.size; simp; omega
        intro v' w2 hown' hgrow _
        have e0 : (P j).2 = 0 := by rw [HP.out]; simp only; rw [if_neg hjv]
        have R := rel_draw (P := P) (by have := hnx.size; omega) hown hnx (by rw [e0]; exact hown') hgrow
        clear hown' hgrow hown hcx
        go_wp2
        go_roundw
        case rel => exact ⟨j + 1, by omega, by go_num, R.1, R.2⟩
        case measure => simp [intOf]; omega
    · have e : j = len := by omega
      subst e
      have r0 : wr.cell? ⟨w.heap.size, 0, none⟩ = some (.string ⟨#[]⟩) := (hnx.cell (by show w.heap.size < _; omega)).trans q0
      have r1 : wr.cell? ⟨w.heap.size, 1, none⟩ = some (.slice none 0 0) := (hnx.cell (by show w.heap.size < _; omega)).trans q1
      have g0 : wr.frozen? ⟨w.heap.size, 0, none⟩ = false := (hnx.frozen (by show w.heap.size < _; omega)).trans f0
      have g1 : wr.frozen? ⟨w.heap.size, 1, none⟩ = false := (hnx.frozen (by show w.heap.size < _; omega)).trans f1
      go_wp2
      refine bodyPost_ret (v := .agg #[.string nm, .slice va j vcap]) (by simp [results, Ybaf.results6, go_sem, r0, r1]) rfl ⟨_, P, rfl, ?_, HW.out, ?_⟩
      · exact own_later (ownsRow_setCell_below (ownsRow_setCell_below hown (by show w.heap.size < _; omega) _) (by show w.heap.size < _; omega) _) (Below.refl _ _) (by omega)
      · exact ((hw0b.trans (hnx.mono (by omega))).setCell (Nat.le_refl _) _).setCell (Nat.le_refl _) _

set_option maxHeartbeats 800000 in
set_option maxRecDepth 1000000 in
theorem build_none (nm : ByteArray) (b off len cap cv : Nat) (a2 : Option Addr) (ls : List ByteArray) (w : World) (hlen : len ≤ 1024) (hpos : 0 < len)
    (hb : b < w.heap.size) (hc : ∀ j, j < len → w.cell? ⟨b, off + j, none⟩ = some (.string (ls.getD j ByteArray.empty))) :
    Calls Ybaf.prog 6 #[.string nm, .slice (some ⟨b, off, none⟩) len cap, .slice a2 0 cv] w fun e w' =>
      ∃ v P, e = .returned (.agg #[.string nm, v]) ∧ w'.ownsRow w.heap.size 33 2 v len (cellsTo P len) ∧ (∀ j, (Lit.int .i64 (P j).2).wf = true) ∧ Below w.heap.size w w' := by
  obtain ⟨i0, hi, hz0, hz1, hz2⟩ := info_parts Ybaf.info33
  have hsn := fun (w : World) (a : Option Addr) (n c : Nat) => Lib.run_eql_slice_nil (P := Ybaf.prog) w 27 9 a n c 0 0 Ybaf.underlying27
  go_enter Ybaf.func6, Ybaf.ntmps6
  obtain ⟨w0, hw0⟩ : ∃ w0, w0 = w.alloc (.cells #[.string ⟨#[]⟩, .slice none 0 0] 24) := ⟨_, rfl⟩
  go_wp2_with (at_make; refine wpList_make_own _ rfl _ _ 22 rfl (w.heap.size + 1) 33 i0 _ 2 Ybaf.underlying22 hi hz0 hz1 _ _ _ len rfl rfl (by omega) (by rw [hz2]; omega) (by unfold maxLen; omega) (by simp) ?_)
  intro w1 hown0 hgrow0
  have hnx0 : Below (w.heap.size + 1) w0 w1 := by rw [hw0]; exact (Below.refl _ _).grown hgrow0 (by simp) (fun k hk => by simp at hk)
  have hw0b : Below w.heap.size w w0 := by rw [hw0]; exact (Below.refl _ _).alloc (Nat.le_refl _) _
  have hw0s : w0.heap.size = w.heap.size + 1 := by rw [hw0]; simp
  have q0 : w0.cell? ⟨w.heap.size, 0, none⟩ = some (.string ⟨#[]⟩) := by rw [hw0]; simp
  have q1 : w0.cell? ⟨w.heap.size, 1, none⟩ = some (.slice none 0 0) := by rw [hw0]; simp
  have f0 : w0.frozen? ⟨w.heap.size, 0, none⟩ = false := by rw [hw0]; simp
  have f1 : w0.frozen? ⟨w.heap.size, 1, none⟩ = false := by rw [hw0]; simp
  clear hw0 hgrow0
  obtain ⟨P, hP⟩ : ∃ P : Nat → ByteArray × Int, P = fun j => (ls.getD j ByteArray.empty, 0) := ⟨_, rfl⟩
  have HP : Hid (P = fun j => (ls.getD j ByteArray.empty, 0)) := hP
  have HW : Hid (∀ j, (Lit.int .i64 (P j).2).wf = true) := by
    intro j
    rw [hP]
    rfl
  clear hP
  go_wp2
  go_loopw [7, 8, 9] (fun v c x wr => ∃ (j : Nat), j ≤ len ∧ c = .int .i64 j ∧ wr.ownsRow (w.heap.size + 1) 33 2 v j (cellsTo P j) ∧ Below (w.heap.size + 1) w0 wr)
    (fun _ c _ _ => len - (intOf c).toNat)
  case atStart => exact ⟨0, Nat.zero_le _, rfl, hown0, hnx0⟩
  case round =>
    obtain ⟨j, hj, rfl, hown, hnx⟩ := hrel
    obtain ⟨va, vcap, rfl⟩ := own_form2 hown
    by_cases hlt : j < len
    · have hcx : wr.cell? ⟨b, off + j, none⟩ = some (.string (P j).1) := (hnx.cell (by show b < _; omega)).trans ((hw0b.cell (by exact hb)).trans (by rw [HP.out]; exact hc j hlt))
      go_wp2_with (at_builtin; refine wpList_append_own _ rfl _ _ 22 rfl (w.heap.size + 1) 33 i0 (.agg #[.string ⟨#[]⟩, .nilIface]) 2 32 Ybaf.underlying22 hi hz0 hz1 hz2 rfl (by decide) _ _ _ rfl (hown.alloc _) ⟨wr.heap.size, 0, none⟩ 1 1 [.string (P j).1, .iface 2 (.int .i64 0)] rfl rfl ?d1 ?d2 ?d3 ?d4 ?d5 ?_)
      case d1 =>
        intro i u hi
        match i, hi with
        | 0, hi => simp at hi; subst hi; simp [Addr.add]
        | 1, hi => simp at hi; subst hi; simp [Addr.add]
      case d2 => intro u hu; simp at hu; rcases hu with rfl | rfl <;> rfl
      case d3 => unfold maxLen; omega
      case d4 => omega
      case d5 => have := hnx.size; simp; omega
      intro v' w2 hown' hgrow _
      have e0 : (P j).2 = 0 := by rw [HP.out]
      have R := rel_draw (P := P) (by have := hnx.size; omega) hown hnx (by rw [e0]; exact hown') hgrow
      clear hown' hgrow hown hcx
      go_wp2
      go_roundw
      case rel => exact ⟨j + 1, by omega, by go_num, R.1, R.2⟩
      case measure => simp [intOf]; omega
    · have e : j = len := by omega
      subst e
      have r0 : wr.cell? ⟨w.heap.size, 0, none⟩ = some (.string ⟨#[]⟩) := (hnx.cell (by show w.heap.size < _; omega)).trans q0
      have r1 : wr.cell? ⟨w.heap.size, 1, none⟩ = some (.slice none 0 0) := (hnx.cell (by show w.heap.size < _; omega)).trans q1
      have g0 : wr.frozen? ⟨w.heap.size, 0, none⟩ = false := (hnx.frozen (by show w.heap.size < _; omega)).trans f0
      have g1 : wr.frozen? ⟨w.heap.size, 1, none⟩ = false := (hnx.frozen (by show w.heap.size < _; omega)).trans f1
      go_wp2
      refine bodyPost_ret (v := .agg #[.string nm, .slice va j vcap]) (by simp [results, Ybaf.results6, go_sem, r0, r1]) rfl ⟨_, P, rfl, ?_, HW.out, ?_⟩
      · exact own_later (ownsRow_setCell_below (ownsRow_setCell_below hown (by show w.heap.size < _; omega) _) (by show w.heap.size < _; omega) _) (Below.refl _ _) (by omega)
      · exact ((hw0b.trans (hnx.mono (by omega))).setCell (Nat.le_refl _) _).setCell (Nat.le_refl _) _

end Go.Proofs.YbulkyfyFmt

/-
  (step).String (function 5) at one drawing or more: the walk, for every F.
-/
import Derived.Test.YbulkyfyFmtFacts
import Derived.Test.YbulkyfyFmtParts
import Derived.Test.YbulkyfyFmtShelf
import Derived.WalkLawsBesides
import Derived.Deep.RegionHeld3
import Derived.Stop.Texts
namespace Go.Proofs.YbulkyfyFmt
open Go.RowKit Go.Extern.Stop Go.Stop Go.Extern
attribute [local go_sem] Ybaf.call9 Ybaf.guard Ybaf.act2_118 Ybaf.op2_118

theorem Ybaf.info9 : (Ybaf.prog.info? 9).map (fun i => (i.zero, i.size, i.bytes)) = some (some (.string ⟨#[]⟩), 1, 16) := by kernel_rfl

/-- What fmt.Sprint is asked of an int64. -/
def askedOf (x : Int) : List (List UInt8) := [Ybaf.shape2, Go.Extern.Stop.digits 8 (x % 2 ^ 64).toNat]
/-- The text that F gives for it. -/
def textFor (F : Interp) (x : Int) : ByteArray := FmtStop.textOf (F "fmt.Sprint" (askedOf x) 0)

/-- The texts of the first n drawings. -/
def textsOf (F : Interp) (P : Nat → ByteArray × Int) (n : Nat) : List ByteArray := (List.range n).map fun j => textFor F (P j).2
theorem textsOf_len (F : Interp) (P : Nat → ByteArray × Int) (n : Nat) : (textsOf F P n).length = n := by simp [textsOf]
theorem textsOf_at {F : Interp} {P : Nat → ByteArray × Int} {n j : Nat} {x : ByteArray} (h : (textsOf F P n)[j]? = some x) : j < n ∧ x = textFor F (P j).2 := by
  unfold textsOf at h
  rw [List.getElem?_map] at h
  obtain ⟨i, hi, rfl⟩ := Option.map_eq_some_iff.1 h
  obtain ⟨hl, rfl⟩ := List.getElem?_eq_some_iff.1 hi
  simp at hl ⊢
  exact hl
/-- What they are joined to. -/
def joined (F : Interp) (P : Nat → ByteArray × Int) (n : Nat) : ByteArray := ⟨(Lib.join ((textsOf F P n).map (·.data.toList)) [44, 32]).toArray⟩
theorem joined_size (F : Interp) (P : Nat → ByteArray × Int) (n : Nat) (hpos : 0 < n) (ht : ∀ j, (textFor F (P j).2).size ≤ 64) : 2 * (n - 1) ≤ (joined F P n).size ∧ (joined F P n).size ≤ 2 * (n - 1) + n * 64 := by
  have hl : ((textsOf F P n).map (·.data.toList)).length = n := by rw [List.length_map, textsOf_len]
  have hj := join_two ((textsOf F P n).map (·.data.toList)) [44, 32] rfl (by omega)
  have hb := lens_le 64 ((textsOf F P n).map (·.data.toList)) (fun x hx => by
    simp only [textsOf, List.map_map, List.mem_map, Function.comp] at hx
    obtain ⟨j, _, rfl⟩ := hx
    rw [Array.length_toList]
    exact ht j)
  rw [hl] at hj hb
  have e : (joined F P n).size = (Lib.join ((textsOf F P n).map (·.data.toList)) [44, 32]).length := by simp [joined, ByteArray.size]
  omega

set_option maxHeartbeats 800000 in
set_option maxRecDepth 1000000 in
theorem string_some (F : Interp) (nm : ByteArray) (g cap n : Nat) (P : Nat → ByteArray × Int) (w : World) (hF : F.answers w.tape) (hnm : nm.size ≤ 1024) (hn : n ≤ 1024) (hpos : 0 < n) (hg : g < w.heap.size) (htx : ∀ j, (textFor F (P j).2).size ≤ 64)
    (hc0 : ∀ j, j < n → w.cell? ⟨g, j * 2, none⟩ = some (.string (P j).1)) (hc1 : ∀ j, j < n → w.cell? ⟨g, j * 2 + 1, none⟩ = some (.iface 2 (.int .i64 (P j).2))) :
    Calls Ybaf.prog 5 #[.agg #[.string nm, .slice (some ⟨g, 0, none⟩) n cap]] w fun e w' => e = .returned (.string (nm ++ ⟨#[40]⟩ ++ joined F P n ++ ⟨#[41]⟩)) ∧ Below w.heap.size w w' := by
  obtain ⟨i0, hi, hz0, hz1, hz2⟩ := info_parts Ybaf.info9
  obtain ⟨w0, hw0⟩ : ∃ w0, w0 = w.alloc (.cells #[.string nm, .slice (some ⟨g, 0, none⟩) n cap] 24) := ⟨_, rfl⟩
  have hn0 : ((n : Int) == 0) = false := by simp; omega
  go_enter Ybaf.func5, Ybaf.ntmps5
  go_wp2_with (at_make; refine wpList_make_full _ rfl _ _ 27 rfl (w.heap.size + 1) 9 i0 _ 1 Ybaf.underlying27 hi hz0 hz1 _ _ _ _ n rfl rfl rfl rfl (by rw [hz2]; omega) (by unfold maxLen; omega) (by simp) ?_)
  intro w1 hown0 hgrow0
  have hnx0 : Below (w.heap.size + 1) w0 w1 := by rw [hw0]; exact (Below.refl _ _).grown hgrow0 (by simp) (fun k hk => by simp at hk)
  have hw0b : Below w.heap.size w w0 := by rw [hw0]; exact (Below.refl _ _).alloc (Nat.le_refl _) _
  have hw0s : w0.heap.size = w.heap.size + 1 := by rw [hw0]; simp
  have hw0t : w0.tape = w.tape := by rw [hw0]; rfl
  have q0 : w0.cell? ⟨w.heap.size, 0, none⟩ = some (.string nm) := by rw [hw0]; simp
  have q1 : w0.cell? ⟨w.heap.size, 1, none⟩ = some (.slice (some ⟨g, 0, none⟩) n cap) := by rw [hw0]; simp
  clear hw0 hgrow0
  have r1 : w1.cell? ⟨w.heap.size, 1, none⟩ = some (.slice (some ⟨g, 0, none⟩) n cap) := (hnx0.cell (by show w.heap.size < _; omega)).trans q1
  go_wp2
  go_loopw [19, 4, 5] (fun c x y wr => ∃ (k : Nat) (xs : List Value), k ≤ n ∧ c = .int .i64 k ∧ xs.length = n ∧ Hid (∀ j, j < k → xs[j]? = some (.string (textFor F (P j).2))) ∧ wr.ownsRow (w.heap.size + 1) 9 1 (.slice (some ⟨w.heap.size + 1, 0, none⟩) n n) n xs ∧ Below (w.heap.size + 1) w0 wr)
    (fun c _ _ _ => n - (intOf c).toNat)
  case atStart => exact ⟨0, _, Nat.zero_le _, rfl, by simpa using hown0.1, (fun j hj => by omega), hown0, hnx0⟩
  case round =>
    obtain ⟨k, xs, hk, rfl, hxl, HX, hown, hnx⟩ := hrel
    by_cases hlt : k < n
    · have d0 : wr.cell? ⟨g, k * 2, none⟩ = some (.string (P k).1) := (hnx.cell (by show g < _; omega)).trans ((hw0b.cell (by exact hg)).trans (hc0 k hlt))
      have d1 : wr.cell? ⟨g, k * 2 + 1, none⟩ = some (.iface 2 (.int .i64 (P k).2)) := (hnx.cell (by show g < _; omega)).trans ((hw0b.cell (by exact hg)).trans (hc1 k hlt))
      have hFr := answers_open (show F.answers wr.tape by rw [hnx.tape, hw0t]; exact hF)
      have hsz : w.heap.size + 1 < wr.heap.size := (hown.lt _ rfl).2
      obtain ⟨old, hold⟩ : ∃ old, xs[k]? = some old := ⟨xs[k]'(by omega), List.getElem?_eq_getElem (by omega)⟩
      have e1 : wr.cell? ⟨w.heap.size + 1, k, none⟩ = some old := (hown.cellAt k (by omega)).trans hold
      have e2 : wr.frozen? ⟨w.heap.size + 1, k, none⟩ = false := hown.frozenAt k
      have e1' : ∀ o1 o2, ((wr.alloc o1).alloc o2).cell? ⟨w.heap.size + 1, k, none⟩ = some old := fun o1 o2 => by rw [World.cell?_alloc_past _ _ _ (by simp; omega), World.cell?_alloc_past _ _ _ hsz]; exact e1
      have e2' : ∀ o1 o2, ((wr.alloc o1).alloc o2).frozen? ⟨w.heap.size + 1, k, none⟩ = false := fun o1 o2 => by rw [World.frozen?_alloc_past _ _ _ (by simp; omega), World.frozen?_alloc_past _ _ _ hsz]; exact e2
      have hkI : (0 : Int) ≤ (k : Int) := by omega
      have hkn : (k : Int) < (n : Int) := by omega
      go_wp2
      apply rows_value Ybaf.nextTurns
      case hr =>
        go_simp
        exact ⟨rfl, rfl⟩
      case h =>
        go_wp2
        go_roundw
        case rel =>
          refine ⟨k + 1, xs.set k (.string (textFor F (P k).2)), by omega, by go_num, by simpa using hxl, ?_, ?_, ?_⟩
          · intro j hj
            rw [List.getElem?_set]
            by_cases e : k = j
            · subst e; rw [if_pos rfl, if_pos (by omega)]
            · rw [if_neg e]; exact HX.out j (by omega)
          · exact (((hown.alloc _).alloc _).stored k _).1
          · exact ((((hnx.alloc (by omega) _).alloc (by simp; omega) _).setCell (Nat.le_refl _) _)).drew
        case measure => simp [intOf]; omega
    · have e : k = n := by omega
      subst e
      have s0 : wr.cell? ⟨w.heap.size, 0, none⟩ = some (.string nm) := (hnx.cell (by show w.heap.size < _; omega)).trans q0
      have hsz : w.heap.size + 1 < wr.heap.size := (hown.lt _ rfl).2
      have hJs := joined_size F P k hpos htx
      have a1 := fun wx => run_string_add_sum (P := Ybaf.prog) wx nm ⟨#[40]⟩ (by have : (⟨#[40]⟩ : ByteArray).size = 1 := rfl; omega)
      have a2 := fun wx => run_string_add_sum (P := Ybaf.prog) wx (nm ++ ⟨#[40]⟩) (joined F P k) (by rw [ByteArray.size_append]; have : (⟨#[40]⟩ : ByteArray).size = 1 := rfl; omega)
      have a3 := fun wx => run_string_add_sum (P := Ybaf.prog) wx (nm ++ ⟨#[40]⟩ ++ joined F P k) ⟨#[41]⟩ (by rw [ByteArray.size_append, ByteArray.size_append]; have : (⟨#[40]⟩ : ByteArray).size = 1 := rfl; have : (⟨#[41]⟩ : ByteArray).size = 1 := rfl; omega)
      have hcl : ∀ j x, (textsOf F P k)[j]? = some x → wr.cell? ⟨w.heap.size + 1, 0 + j, none⟩ = some (.string x) := by
        intro j x hj
        obtain ⟨hj1, rfl⟩ := textsOf_at hj
        rw [Nat.zero_add, hown.cellAt j (by omega)]
        exact HX.out j hj1
      have hJ : ∀ wx : World, (∀ j x, (textsOf F P k)[j]? = some x → wx.cell? ⟨w.heap.size + 1, 0 + j, none⟩ = some (.string x)) → w.heap.size + 1 < wx.heap.size →
          Calls Ybaf.prog 10 #[.slice (some ⟨w.heap.size + 1, 0, none⟩) k k, .string ⟨#[44, 32]⟩] wx fun e w' => e = .returned (.string (joined F P k)) ∧ Below wx.heap.size wx w' := by
        intro wx h1 h2
        have hl := textsOf_len F P k
        have h := Ybaf.strings_Join (w.heap.size + 1) 0 k (textsOf F P k) ⟨#[44, 32]⟩ wx h1 h2 (by omega) (by omega) (by simp only [joined, ByteArray.size, List.size_toArray] at hJs; show (Lib.join _ [44, 32]).length ≤ _; omega)
        rw [hl] at h
        exact h
      have hJd := hJ wr.drew hcl hsz
      clear HX hJ hcl
      go_wp2
      go_region_held3 (fun w' => w'.cell? ⟨w.heap.size, 0, none⟩ = some (.string nm)) (first | go_keep | (rw [hb2.cell (by show w.heap.size < wr.heap.size; omega)]; exact s0)) ((go_at_call 10; refine hJd.mono ?_; rintro e w2 ⟨rfl, hb2⟩))
      go_wp2
      go_ret
      exact ⟨rfl, ((hw0b.trans (hnx.mono (by omega))).drew).trans (hb2.mono (by show w.heap.size ≤ wr.heap.size; omega))⟩

end Go.Proofs.YbulkyfyFmt

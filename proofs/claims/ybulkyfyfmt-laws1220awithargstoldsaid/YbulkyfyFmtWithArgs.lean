/-
  LawS1220AWithArgs (function 4): the walk, for every F whose text of an int64 has at most 64 bytes.
-/
import Derived.Test.YbulkyfyFmtBuild
import Derived.Test.YbulkyfyFmtString
namespace Go.Proofs.YbulkyfyFmt
open Go.RowKit Go.Extern.Stop Go.Stop Go.Extern

/-- What String gives. -/
def outOf (F : Interp) (nm : ByteArray) (P : Nat → ByteArray × Int) (n : Nat) : ByteArray := nm ++ ⟨#[40]⟩ ++ joined F P n ++ ⟨#[41]⟩

theorem outOf_size (F : Interp) (nm : ByteArray) (P : Nat → ByteArray × Int) (n : Nat) (hpos : 0 < n) (ht : ∀ j, (textFor F (P j).2).size ≤ 64) :
    nm.size + 2 + 2 * (n - 1) ≤ (outOf F nm P n).size ∧ (outOf F nm P n).size ≤ nm.size + 2 + 2 * (n - 1) + n * 64 := by
  have h := joined_size F P n hpos ht
  have h1 : (⟨#[40]⟩ : ByteArray).size = 1 := rfl
  have h2 : (⟨#[41]⟩ : ByteArray).size = 1 := rfl
  unfold outOf
  rw [ByteArray.size_append, ByteArray.size_append, ByteArray.size_append]
  omega
theorem outOf_data (F : Interp) (nm : ByteArray) (P : Nat → ByteArray × Int) (n : Nat) : (outOf F nm P n).data.toList = (nm ++ ⟨#[40]⟩ : ByteArray).data.toList ++ ((joined F P n).data.toList ++ [41]) := by
  unfold outOf
  simp only [ByteArray.data_append, Array.toList_append, List.append_assoc]
theorem outOf_prefix (F : Interp) (nm : ByteArray) (P : Nat → ByteArray × Int) (n : Nat) : Lib.hasPrefix (outOf F nm P n).data.toList (nm ++ ⟨#[40]⟩ : ByteArray).data.toList = true := by
  rw [outOf_data]
  unfold Lib.hasPrefix
  rw [List.isPrefixOf_iff_prefix]
  exact List.prefix_append _ _
theorem outOf_suffix (F : Interp) (nm : ByteArray) (P : Nat → ByteArray × Int) (n : Nat) : Lib.hasSuffix (outOf F nm P n).data.toList (⟨#[41]⟩ : ByteArray).data.toList = true := by
  rw [outOf_data, ← List.append_assoc]
  unfold Lib.hasSuffix
  rw [List.isSuffixOf_iff_suffix]
  exact List.suffix_append _ _

theorem string_out (F : Interp) (nm : ByteArray) (g cap n : Nat) (P : Nat → ByteArray × Int) (w : World) (hF : F.answers w.tape) (hnm : nm.size ≤ 1024) (hn : n ≤ 1024) (hpos : 0 < n) (hg : g < w.heap.size) (htx : ∀ j, (textFor F (P j).2).size ≤ 64)
    (hc0 : ∀ j, j < n → w.cell? ⟨g, j * 2, none⟩ = some (.string (P j).1)) (hc1 : ∀ j, j < n → w.cell? ⟨g, j * 2 + 1, none⟩ = some (.iface 2 (.int .i64 (P j).2))) :
    Calls Ybaf.prog 5 #[.agg #[.string nm, .slice (some ⟨g, 0, none⟩) n cap]] w fun e w' => e = .returned (.string (outOf F nm P n)) ∧ Below w.heap.size w w' :=
  string_some F nm g cap n P w hF hnm hn hpos hg htx hc0 hc1

theorem own_drawn {w : World} {B n : Nat} {v : Value} {P : Nat → ByteArray × Int} (h : w.ownsRow B 33 2 v n (cellsTo P n)) (hpos : 0 < n) :
    ∃ g cap, v = .slice (some ⟨g, 0, none⟩) n cap ∧ g < w.heap.size ∧ (∀ j, j < n → w.cell? ⟨g, j * 2, none⟩ = some (.string (P j).1)) ∧ ∀ j, j < n → w.cell? ⟨g, j * 2 + 1, none⟩ = some (.iface 2 (.int .i64 (P j).2)) := by
  have h' := h
  rcases h.2 with ⟨_, hn⟩ | ⟨g, cap, cur, hv, _⟩
  · omega
  · subst hv
    refine ⟨g, cap, rfl, (h'.lt g rfl).2, fun j hj => ?_, fun j hj => ?_⟩
    · rw [h'.cellAt (j * 2) (by omega)]; exact (cellsTo_at P n j hj).1
    · rw [h'.cellAt (j * 2 + 1) (by omega)]; exact (cellsTo_at P n j hj).2

set_option maxHeartbeats 800000 in
set_option maxRecDepth 1000000 in
theorem law_pos (F : Interp) (nm : ByteArray) (b off len cap : Nat) (vv : Value) (w : World) (hF : F.answers w.tape) (hnm : nm.size ≤ 1024) (hlen : len ≤ 1024) (hpos : 0 < len)
    (a2 : Option Addr) (nv cv : Nat) (hvv : vv = .slice a2 nv cv) (hnv : nv ≤ 1024)
    (htx : ∀ x : Int, (Lit.int .i64 x).wf = true → (textFor F x).size ≤ 64)
    (hB : Calls Ybaf.prog 6 #[.string nm, .slice (some ⟨b, off, none⟩) len cap, vv] w fun e w' =>
      ∃ v P, e = .returned (.agg #[.string nm, v]) ∧ w'.ownsRow w.heap.size 33 2 v len (cellsTo P len) ∧ (∀ j, (Lit.int .i64 (P j).2).wf = true) ∧ Below w.heap.size w w') :
    Calls Ybaf.prog 4 #[.string nm, .slice (some ⟨b, off, none⟩) len cap, vv] w fun e w' => e = .returned (.bool true) ∧ Below w.heap.size w w' := by
  subst hvv
  have hl0 : ((len : Int) == 0) = false := by simp; omega
  go_enter Ybaf.func4, Ybaf.ntmps4
  go_wp2_with fail
  refine hB.mono ?_
  rintro e w1 ⟨v, P, rfl, hown, hwf, hb1⟩
  clear hB
  obtain ⟨g, vcap, rfl, hg, hd0, hd1⟩ := own_drawn hown hpos
  clear hown
  have hs1 := hb1.size
  have ht : ∀ j, (textFor F (P j).2).size ≤ 64 := fun j => htx _ (hwf j)
  have hos := outOf_size F nm P len hpos ht
  go_wp2_with fail
  refine (string_out F nm g vcap len P _ ?t1 hnm hlen hpos ?t2 ht ?t3 ?t4).mono ?_
  case t1 => show F.answers w1.tape; rw [hb1.tape]; exact hF
  case t2 => simp; omega
  case t3 => intro j hj; rw [World.cell?_alloc_past _ _ _ (by exact hg)]; exact hd0 j hj
  case t4 => intro j hj; rw [World.cell?_alloc_past _ _ _ (by exact hg)]; exact hd1 j hj
  rintro e w2 ⟨rfl, hb2⟩
  have hpre := outOf_prefix F nm P len
  have hsuf := outOf_suffix F nm P len
  obtain ⟨o, ho⟩ : ∃ o, o = outOf F nm P len := ⟨_, rfl⟩
  rw [← ho] at hpre hsuf hos ⊢
  clear ho hd0 hd1
  have a1 := fun wx => run_string_add_sum (P := Ybaf.prog) wx nm ⟨#[40]⟩ (by have : (⟨#[40]⟩ : ByteArray).size = 1 := rfl; omega)
  have hge : ¬ (o.size : Int) < (nm.size : Int) + 2 + 2 * ((len : Int) - 1) := by omega
  have c7 : ∀ wx, Calls Ybaf.prog 7 #[.string o, .string (nm ++ ⟨#[40]⟩)] wx fun e w' => e = .returned (.bool true) ∧ w' = wx := fun wx => by
    have h := Ybaf.strings_HasPrefix o (nm ++ ⟨#[40]⟩) wx
    rw [hpre] at h
    exact h
  have c8 : ∀ wx, Calls Ybaf.prog 8 #[.string o, .string ⟨#[41]⟩] wx fun e w' => e = .returned (.bool true) ∧ w' = wx := fun wx => by
    have h := Ybaf.strings_HasSuffix o ⟨#[41]⟩ wx (by omega)
    rw [hsuf] at h
    exact h
  clear hpre hsuf
  go_wp2_with fail
  refine (c7 _).mono ?_
  rintro e w3 ⟨rfl, rfl⟩
  go_wp2_with fail
  refine (c8 _).mono ?_
  rintro e w4 ⟨rfl, rfl⟩
  go_wp2
  go_ret
  exact ⟨rfl, (hb1.alloc hs1 _).trans (hb2.mono (by simp; omega))⟩

set_option maxHeartbeats 400000 in
theorem law_zero (nm : ByteArray) (a1 a2 : Option Addr) (cap nv cv : Nat) (w : World) (_hnm : nm.size ≤ maxLen) (hnv : nv ≤ maxLen) :
    Calls Ybaf.prog 4 #[.string nm, .slice a1 0 cap, .slice a2 nv cv] w fun e w' => e = .returned (.bool true) ∧ w' = w := by
  unfold maxLen at hnv
  go_enter Ybaf.func4, Ybaf.ntmps4
  go_wp2
  all_goals (go_ret; exact ⟨rfl, rfl⟩)

set_option maxHeartbeats 400000 in
theorem law_big (nm : ByteArray) (a1 a2 : Option Addr) (len cap nv cv : Nat) (w : World) (hnm : nm.size ≤ maxLen) (hnv : nv ≤ maxLen) (hlen : len ≤ maxLen) (hbig : 1024 < len ∨ 1024 < nv ∨ 1024 < nm.size) :
    Calls Ybaf.prog 4 #[.string nm, .slice a1 len cap, .slice a2 nv cv] w fun e w' => e = .returned (.bool true) ∧ w' = w := by
  unfold maxLen at hnm hnv hlen
  by_cases h1 : 1024 < len
  · go_enter Ybaf.func4, Ybaf.ntmps4
    go_wp2
    go_ret
    exact ⟨rfl, rfl⟩
  by_cases h2 : 1024 < nv
  · go_enter Ybaf.func4, Ybaf.ntmps4
    go_wp2
    go_ret
    exact ⟨rfl, rfl⟩
  have h3 : 1024 < nm.size := by omega
  clear hbig
  go_enter Ybaf.func4, Ybaf.ntmps4
  go_wp2
  go_ret
  exact ⟨rfl, rfl⟩

end Go.Proofs.YbulkyfyFmt

/-
  A PROOF OF 'Rows.LawS1226BCounterSaid': the frame of the guide's shell for a law, at a slice of strings, a slice of uint64 and a string; the walk from YbulkyjeLaw.lean.
-/
import Derived.Test.YbulkyjeRows
import Derived.WalkKit
import Derived.ProofKit
import Derived.OpenShut
import Derived.ShutString
import Derived.SliceStrings
import Derived.ChangeOld
import Derived.Below
import Derived.Test.YbulkyjeLaw
namespace Go.Proofs.Ybulkyje.lawS1226BCounter
open Go.ChangeShapes Go.WideShapes Go.ChangeAt Go.RowKit
open Go.ChangeMaps (open_string shut_string)

theorem own : ownKnob Yba.prog.godebug = none := by kernel_rfl
theorem laidOut : laidOutB Yba.prog = true := by kernel_rfl
theorem cells9 : Yba.prog.cellsOf 9 = 1 := by kernel_rfl
theorem cells29 : Yba.prog.cellsOf 29 = 1 := by kernel_rfl

/-- The walk at whatever slices came in. -/
theorem walk (a1 a2 : Option Addr) (len cap nv cv : Nat) (s : ByteArray) (w : World)
    (h1 : (a1 = none ∧ len = 0 ∧ cap = 0) ∨ ∃ (x : Addr) (ss : List ByteArray), a1 = some x ∧ len ≤ cap ∧ cap ≤ maxLen ∧ ss.length = cap ∧ ∀ i, i < ss.length → w.cell? (x.add i) = some (.string (ss.getD i ByteArray.empty)))
    (h2 : (a2 = none ∧ nv = 0 ∧ cv = 0) ∨ ∃ (x : Addr) (zs : List Int), a2 = some x ∧ nv ≤ cv ∧ cv ≤ maxLen ∧ zs.length = cv ∧ ∀ i, i < zs.length → w.cell? (x.add i) = some (.int .u64 (zs.getD i 0))) :
    Calls Yba.prog 3 #[.slice a1 len cap, .slice a2 nv cv, .string s] w fun e w' => e = .returned (.bool true) ∧ Below w.heap.size w w' := by
  have hl : len ≤ maxLen := by
    rcases h1 with ⟨_, rfl, _⟩ | ⟨_, _, _, h, h', _⟩
    · exact Nat.zero_le _
    · omega
  have hv : nv ≤ maxLen := by
    rcases h2 with ⟨_, rfl, _⟩ | ⟨_, _, _, h, h', _⟩
    · exact Nat.zero_le _
    · omega
  unfold maxLen at hl hv
  by_cases hbig : 1024 < len
  · exact law_big a1 len cap _ _ w hbig (by omega)
  obtain ⟨vs, hvs⟩ : ∃ vs : List Int, ∀ j, j < nv → ∃ b2 off2, a2 = some ⟨b2, off2, none⟩ ∧ b2 < w.heap.size ∧ w.cell? ⟨b2, off2 + j, none⟩ = some (.int .u64 (vs.getD j 0)) := by
    rcases h2 with ⟨_, rfl, _⟩ | ⟨y, zs, rfl, hnc, _, hzl, hzc⟩
    · exact ⟨[], fun j hj => by omega⟩
    · refine ⟨zs, fun j hj => ?_⟩
      obtain ⟨b2, off2, rfl, hz⟩ := ints_at hzc (by omega)
      exact ⟨b2, off2, rfl, World.block_lt_of_cell? _ _ (hz j (by omega)), hz j (by omega)⟩
  have hq := law_small a1 len cap (.slice a2 nv cv) s.data.toList w (by omega)
  rw [strOf_data] at hq
  refine hq ?_
  rcases h1 with ⟨rfl, rfl, rfl⟩ | ⟨x, ss, rfl, hlc, _, hsl, hcell⟩
  · exact build_nil nv cv a2 w
  by_cases h0 : len = 0
  · subst h0
    exact build_some _ 0 nv cv a2 [] vs w (by omega) (by omega) hvs (clone_zero x cap w)
  obtain ⟨b, off, spot⟩ := x
  have hspot : spot = none := by simpa [Addr.add] using World.cell?_spot (hcell 0 (by omega))
  subst hspot
  have hc : ∀ j, j < ss.length → w.cell? ⟨b, off + j, none⟩ = some (.string (ss.getD j ByteArray.empty)) := fun j hj => by rw [← Go.WideShapes.add_plain]; exact hcell j hj
  have hb : b < w.heap.size := World.block_lt_of_cell? _ _ (hc 0 (by omega))
  exact build_some _ len nv cv a2 _ vs w (by omega) (by omega) hvs (clone_some b off len cap ss w (by omega) (by omega) hb hc)

set_option maxRecDepth 100000 in
theorem lifted (os : Os) (started : os.Started) (H : Type) (enc : TypeId × Value → H) :
    ReturnsInHanded {} Yba.checked os 3 .any (Rows.lawS1226BCounterSpec.pre6 enc Yba.prog Yba.f3 Rows.lawS1226BCounterRow.domain false) (Rows.lawS1226BCounterSpec.post enc Yba.prog Yba.f3 false true false false) := by
  refine returnsInHanded_of_change (C := Yba.checked) own started (by kernel_rfl) Yba.func3
    (ChangeSpec.witness6 (enc := enc) (C := Yba.checked) false ⟨#[], #[.slice none 0 0, .slice none 0 0, .string ByteArray.empty], []⟩ 8 (by kernel_rfl) (by kernel_rfl) (by kernel_rfl) (by kernel_rfl)) ?_
  intro W base args ds gs before hval0 hW hcnd _
  have hval : ∀ (j : Nat) t v, Yba.f3.params[j]? = some t → args[j]? = some v → Value.okWide Yba.prog W .any base t v := hval0
  have hW' := hW
  obtain ⟨p, q, hA0, hV, rfl, _, _⟩ := hW
  have hA : DataW.TrodAll enc Yba.prog W 0 (fun _ => true) true Yba.f3.params.toList args.toList ds p := hA0
  rw [Yba.params3] at hA hval
  obtain ⟨v0, v1, v2, d0, d1, d2, p0, p1, p2, rfl, rfl, rfl, h0, h1, h2⟩ := trodAll_three hA
  obtain ⟨rfl, rfl⟩ := trodVars_none hV
  obtain ⟨a0, len0, cap0, rfl⟩ := okWide_slice Yba.underlying22 (hval 0 22 v0 rfl rfl)
  obtain ⟨a1, len1, cap1, rfl⟩ := okWide_slice Yba.underlying23 (hval 1 23 v1 rfl rfl)
  obtain ⟨s, rfl, rfl, rfl, hs⟩ := open_string Yba.underlying9 (hval 2 9 v2 rfl rfl) h2
  have k0 := h0
  have k1 := h1
  have lt0 : ∀ x ∈ p0, x.block < W.heap.size := by obtain ⟨m, hm⟩ := k0; exact DataW.trod_lt m _ _ _ hm
  have lt1 : ∀ x ∈ p1, x.block < W.heap.size := by obtain ⟨m, hm⟩ := k1; exact DataW.trod_lt m _ _ _ hm
  have w0 : (a0 = none ∧ len0 = 0 ∧ cap0 = 0) ∨ ∃ (x : Addr) (ss : List ByteArray), a0 = some x ∧ len0 ≤ cap0 ∧ cap0 ≤ maxLen ∧ ss.length = cap0 ∧ ∀ i, i < ss.length → W.cell? (x.add i) = some (.string (ss.getD i ByteArray.empty)) := by
    obtain ⟨fuel, hf⟩ := h0
    rcases open_strings Yba.underlying22 Yba.underlying9 cells9 hf with ⟨hcs, _⟩ | ⟨x, l, c, ss, hcs, _, hl, hm, hz, _, hcell, _⟩
    · simp [Value.cells] at hcs
      exact .inl hcs
    · simp [Value.cells] at hcs
      obtain ⟨rfl, rfl, rfl⟩ := hcs
      exact .inr ⟨_, ss, rfl, hl, hm, by simpa using hz, hcell⟩
  have w1 : (a1 = none ∧ len1 = 0 ∧ cap1 = 0) ∨ ∃ (x : Addr) (zs : List Int), a1 = some x ∧ len1 ≤ cap1 ∧ cap1 ≤ maxLen ∧ zs.length = cap1 ∧ ∀ i, i < zs.length → W.cell? (x.add i) = some (.int .u64 (zs.getD i 0)) := by
    obtain ⟨fuel, hf⟩ := h1
    rcases open_ints Yba.underlying23 Yba.underlying29 cells29 hf with ⟨hcs, _⟩ | ⟨x, l, c, zs, hcs, _, hl, hm, hz, _, hcell, _⟩
    · simp [Value.cells] at hcs
      exact .inl hcs
    · simp [Value.cells] at hcs
      obtain ⟨rfl, rfl, rfl⟩ := hcs
      exact .inr ⟨_, zs, rfl, hl, hm, by simpa using hz, hcell⟩
  clear hA0 hval0
  refine (walk a0 a1 len0 cap0 len1 cap1 s W w0 w1).mono fun e W' ⟨he, bel⟩ => ?_
  subst he
  exact ⟨_, rfl, _, _, _, [], _, [], hW', trodAll_mk1 (shut_bool Yba.underlying4 _), trodAll_mk3 (Below.trod laidOut (by kernel_rfl) (of_decide_eq_true (by kernel_rfl)) k0 bel lt0) (Below.trod laidOut (by kernel_rfl) (of_decide_eq_true (by kernel_rfl)) k1 bel lt1) (shut_string Yba.underlying9 hs), rfl, bel.frame _, fun h => by cases h⟩

theorem over : Rows.lawS1226BCounterRow.holds Yba.pinned (OpenSpec.ofChange Rows.lawS1226BCounterSpec) :=
  OpenClaim.holds_of_wide 3 Yba.f3 rfl rfl rfl rfl rfl rfl rfl ⟨rfl, rfl, rfl, rfl, rfl⟩ rfl rfl rfl rfl rfl (by kernel_rfl) Yba.func3 (by kernel_rfl)
    (of_decide_eq_true (by kernel_rfl)) (by unfold Func.isWrapper; first | (rw [if_pos (by decide +kernel)]; kernel_rfl) | (rw [if_neg (by decide +kernel)]; exact ⟨rfl, rfl⟩))
    (fun os started H enc _ => lifted os started H enc)

/-- THE STATEMENT. -/
theorem proved : Rows.LawS1226BCounterSaid := over
end Go.Proofs.Ybulkyje.lawS1226BCounter

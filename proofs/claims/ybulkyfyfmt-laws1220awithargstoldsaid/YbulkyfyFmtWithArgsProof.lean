/-
  LawS1220AWithArgsToldSaid: fmt's text of an int64 (told) has at most 21 bytes; from the walk to the told card.
-/
import Derived.Test.YbulkyfyFmtWithArgs
import Derived.Test.YbulkyfyFmtCards
import Derived.ProofKit
import Derived.OpenShut
import Derived.SliceStrings
import Derived.ChangeSlices
import Derived.ChangeSame
import Derived.ChangeMaps5
import Derived.JoinedOf
import Derived.Carry
import Derived.Stop.JoinedAt
import Derived.Stop.Texts
import Derived.Stop.JoinedTold
import Derived.Stop.FmtTextKit
import Derived.SizedLaws
import Derived.SevenToldRow
namespace Go.Proofs.YbulkyfyFmt.withArgs
open Go.ChangeShapes Go.WideShapes Go.ChangeAt Go.RowKit Go.Kit
open Go.ChangeMaps (open_string shut_string)
open Go.Extern.Stop Go.Stop Go.Extern

theorem own : ownKnob Ybaf.prog.godebug = none := by kernel_rfl
theorem laidOut : laidOutB Ybaf.pinned.checked.prog = true := by kernel_rfl
theorem cells9 : Ybaf.prog.cellsOf 9 = 1 := by kernel_rfl
theorem cells2 : Ybaf.prog.cellsOf 2 = 1 := by kernel_rfl
theorem stopKnobs : Ybaf.pinned.checked.prog.stopKnobs = [] := by kernel_rfl
theorem quiet (os : Os) : Stop.quiet Ybaf.pinned.checked.prog os := by
  intro k hk
  rw [stopKnobs] at hk
  cases hk

/-- fmt.Sprint of an int64, told: its decimal digits. -/
theorem told_text (x : Int) (hw : (Lit.int .i64 x).wf = true) : FmtText.text "fmt.Sprint" (askedOf x) = some (Lib.itoa x) := by
  have hi := FmtText.operand_int_at (sh := Ybaf.shape2) (k := .i64) rfl rfl x hw
  have e : askedOf x = [Ybaf.shape2, Go.Extern.Stop.digits 8 (x % 18446744073709551616).toNat] := rfl
  rw [e, FmtText.text_sprint (FmtText.operands_cons hi FmtText.operands_nil)]
  simp [FmtText.doPrint, FmtText.printArg_v _ _ hw]

theorem told_size (F : Interp) (x : Int) (hw : (Lit.int .i64 x).wf = true) : (textFor F.told x).size ≤ 64 := by
  have hl := FmtText.itoa_length_le hw
  have h := told_string F (told_text x hw) (by omega)
  have e : (textFor F.told x).data.toList = Lib.itoa x := by
    unfold textFor
    rw [textOf_list, h]
  have : (textFor F.told x).size = (Lib.itoa x).length := by rw [← e, Array.length_toList]; rfl
  omega

/-- The law's walk at whatever slices came in. -/
theorem walk (F : Interp) (nm : ByteArray) (a1 a2 : Option Addr) (len cap nv cv : Nat) (w : World) (hF : F.told.answers w.tape) (hnm : nm.size ≤ maxLen)
    (h1 : (a1 = none ∧ len = 0 ∧ cap = 0) ∨ ∃ (x : Addr) (ss : List ByteArray), a1 = some x ∧ len ≤ cap ∧ cap ≤ maxLen ∧ ss.length = cap ∧ ∀ i, i < ss.length → w.cell? (x.add i) = some (.string (ss.getD i ByteArray.empty)))
    (h2 : (a2 = none ∧ nv = 0 ∧ cv = 0) ∨ ∃ (x : Addr) (zs : List Int), a2 = some x ∧ nv ≤ cv ∧ cv ≤ maxLen ∧ zs.length = cv ∧ (∀ i, i < zs.length → w.cell? (x.add i) = some (.int .i64 (zs.getD i 0))) ∧ ∀ n ∈ zs, (Lit.int .i64 n).wf = true) :
    Calls Ybaf.prog 4 #[.string nm, .slice a1 len cap, .slice a2 nv cv] w fun e w' => e = .returned (.bool true) ∧ Below w.heap.size w w' := by
  have hl : len ≤ maxLen := by
    rcases h1 with ⟨_, rfl, _⟩ | ⟨_, _, _, h, h', _⟩
    · exact Nat.zero_le _
    · omega
  have hv : nv ≤ maxLen := by
    rcases h2 with ⟨_, rfl, _⟩ | ⟨_, _, _, h, h', _⟩
    · exact Nat.zero_le _
    · omega
  have still : ∀ (e : Ending) (w' : World), (e = .returned (.bool true) ∧ w' = w) → e = .returned (.bool true) ∧ Below w.heap.size w w' := by
    rintro e w' ⟨rfl, rfl⟩
    exact ⟨rfl, Below.refl _ _⟩
  by_cases h0 : len = 0
  · subst h0
    exact (law_zero nm a1 a2 cap nv cv w hnm hv).mono still
  by_cases hbig : 1024 < len ∨ 1024 < nv ∨ 1024 < nm.size
  · exact (law_big nm a1 a2 len cap nv cv w hnm hv hl hbig).mono still
  rcases h1 with ⟨_, rfl, _⟩ | ⟨x, ss, rfl, hlc, hcm, hsl, hcell⟩
  · exact absurd rfl h0
  obtain ⟨b, off, spot⟩ := x
  have hspot : spot = none := by simpa [Addr.add] using World.cell?_spot (hcell 0 (by omega))
  subst hspot
  have hc : ∀ j, j < len → w.cell? ⟨b, off + j, none⟩ = some (.string (ss.getD j ByteArray.empty)) := fun j hj => by rw [← Go.WideShapes.add_plain]; exact hcell j (by omega)
  have hb : b < w.heap.size := World.block_lt_of_cell? _ _ (hc 0 (by omega))
  by_cases hn0 : nv = 0
  · subst hn0
    exact law_pos F.told nm b off len cap _ w hF (by omega) (by omega) (by omega) a2 0 cv rfl (by omega) (told_size F) (build_none nm b off len cap cv a2 ss w (by omega) (by omega) hb hc)
  rcases h2 with ⟨_, rfl, _⟩ | ⟨y, zs, rfl, hnc, hcm2, hzl, hzc, hzw⟩
  · exact absurd rfl hn0
  obtain ⟨b2, off2, rfl, hz⟩ := ints_at hzc (by omega)
  refine law_pos F.told nm b off len cap _ w hF (by omega) (by omega) (by omega) _ nv cv rfl (by omega) (told_size F) (build_some nm b off len cap b2 off2 nv cv ss zs w (by omega) (by omega) (by omega) hb (World.block_lt_of_cell? _ _ (hz 0 (by omega))) hc (fun j hj => hz j (by omega)) (fun j hj => ?_))
  rw [List.getD_eq_getElem?_getD, List.getElem?_eq_getElem (by omega)]
  exact hzw _ (List.getElem_mem _)

set_option maxRecDepth 100000 in
theorem lifted (os : Os) (started : os.Started) (H : Type) (enc : TypeId × Value → H) :
    ReturnsInTold none {} Ybaf.checked os 4 .any Input.okWide ((OpenSpec.ofChange Rows.lawS1220AWithArgsSpec).preRow enc Ybaf.prog Ybaf.f4 [] false []) (fun F => ((OpenSpec.ofChange Rows.lawS1220AWithArgsSpec).at F).post enc Ybaf.prog Ybaf.f4 false true false false) (aloneAtReturn Ybaf.prog) nothingAlways := by
  refine returnsInTold_of_row (C := Ybaf.checked) (s := OpenSpec.ofChange Rows.lawS1220AWithArgsSpec) (by kernel_rfl) own started (by kernel_rfl) Ybaf.func4
    (OpenSpec.witness_stopped (enc := enc) (C := Ybaf.checked) false ⟨#[], #[.string ByteArray.empty, .slice none 0 0, .slice none 0 0], []⟩ 8 (by kernel_rfl) (by kernel_rfl) (by kernel_rfl) (by kernel_rfl)) ?_
  intro F W base args ds gs before _ hF hval0 hW _ _ hsz _ _
  have hval : ∀ (j : Nat) t v, Ybaf.f4.params[j]? = some t → args[j]? = some v → Value.okWide Ybaf.prog W .any base t v := hval0
  have hW' := hW
  obtain ⟨p, q, hA0, hV, rfl, _, _⟩ := hW
  have hA : DataW.TrodAll enc Ybaf.prog W 0 (fun _ => true) true Ybaf.f4.params.toList args.toList ds p := hA0
  rw [Ybaf.params4] at hA hval
  obtain ⟨v0, v1, v2, d0, d1, d2, p0, p1, p2, rfl, rfl, rfl, h0, h1, h2⟩ := trodAll_three hA
  obtain ⟨rfl, rfl⟩ := trodVars_none hV
  obtain ⟨s, rfl, rfl, rfl, hs⟩ := open_string Ybaf.underlying9 (hval 0 9 v0 rfl rfl) h0
  obtain ⟨a1, len1, cap1, rfl⟩ := okWide_slice Ybaf.underlying27 (hval 1 27 v1 rfl rfl)
  obtain ⟨a2, len2, cap2, rfl⟩ := okWide_slice Ybaf.underlying28 (hval 2 28 v2 rfl rfl)
  have k1 := h1
  have k2 := h2
  have lt1 : ∀ x ∈ p1, x.block < W.heap.size := by obtain ⟨m, hm⟩ := k1; exact DataW.trod_lt m _ _ _ hm
  have lt2 : ∀ x ∈ p2, x.block < W.heap.size := by obtain ⟨m, hm⟩ := k2; exact DataW.trod_lt m _ _ _ hm
  have w1 : (a1 = none ∧ len1 = 0 ∧ cap1 = 0) ∨ ∃ (x : Addr) (ss : List ByteArray), a1 = some x ∧ len1 ≤ cap1 ∧ cap1 ≤ maxLen ∧ ss.length = cap1 ∧ ∀ i, i < ss.length → W.cell? (x.add i) = some (.string (ss.getD i ByteArray.empty)) := by
    obtain ⟨fuel, hf⟩ := h1
    rcases open_strings Ybaf.underlying27 Ybaf.underlying9 cells9 hf with ⟨hcs, _⟩ | ⟨x, l, c, ss, hcs, _, hl, hm, hz, _, hcell, _⟩
    · simp [Value.cells] at hcs
      exact .inl hcs
    · simp [Value.cells] at hcs
      obtain ⟨rfl, rfl, rfl⟩ := hcs
      exact .inr ⟨_, ss, rfl, hl, hm, by simpa using hz, hcell⟩
  have w2 : (a2 = none ∧ len2 = 0 ∧ cap2 = 0) ∨ ∃ (x : Addr) (zs : List Int), a2 = some x ∧ len2 ≤ cap2 ∧ cap2 ≤ maxLen ∧ zs.length = cap2 ∧ (∀ i, i < zs.length → W.cell? (x.add i) = some (.int .i64 (zs.getD i 0))) ∧ ∀ n ∈ zs, (Lit.int .i64 n).wf = true := by
    obtain ⟨fuel, hf⟩ := h2
    rcases open_ints Ybaf.underlying28 Ybaf.underlying2 cells2 hf with ⟨hcs, _⟩ | ⟨x, l, c, zs, hcs, _, hl, hm, hz, _, hcell, hwz⟩
    · simp [Value.cells] at hcs
      exact .inl hcs
    · simp [Value.cells] at hcs
      obtain ⟨rfl, rfl, rfl⟩ := hcs
      exact .inr ⟨_, zs, rfl, hl, hm, by simpa using hz, hcell, hwz⟩
  clear hA0 hval0
  refine (walk F s a1 a2 len1 cap1 len2 cap2 W hF hs w1 w2).mono fun e W' ⟨he, bel⟩ => ?_
  subst he
  exact ⟨_, rfl, _, _, _, [], _, [], hW', trodAll_mk1 (shut_bool Ybaf.underlying4 _), trodAll_mk3 (shut_string Ybaf.underlying9 hs) (Below.trod laidOut (by kernel_rfl) (of_decide_eq_true (by kernel_rfl)) k1 bel lt1) (Below.trod laidOut (by kernel_rfl) (of_decide_eq_true (by kernel_rfl)) k2 bel lt2), rfl, bel.frame _, fun h => by cases h⟩

/-- THE STATEMENT. -/
theorem proved : Rows.LawS1220AWithArgsToldSaid :=
  Claim7.holds_of_told_any 4 Ybaf.f4 _ [] [] _ _ _ (by kernel_rfl) rfl rfl rfl laidOut (by kernel_rfl) rfl ⟨rfl, rfl, rfl, rfl, rfl, rfl, rfl⟩ rfl rfl (by kernel_rfl) (by kernel_rfl) Ybaf.func4 (by kernel_rfl)
    (of_decide_eq_true (by kernel_rfl)) (by unfold Func.isWrapper; rw [if_neg (of_decide_eq_false (by kernel_rfl))]; exact ⟨rfl, rfl⟩) (by kernel_rfl) rfl stopKnobs.symm (by kernel_rfl)
    (by kernel_rfl) (by kernel_rfl) (by kernel_rfl) (by kernel_rfl) (by kernel_rfl) (by kernel_rfl) (by kernel_rfl) (by kernel_rfl) (by kernel_rfl) rfl (by kernel_rfl) rfl rfl
    rfl rfl
    rfl (by kernel_rfl) (by kernel_rfl) (by kernel_rfl) (by decide) (by kernel_rfl)
    (OpenClaim.moreEntering_of (by kernel_rfl) (by kernel_rfl) (by kernel_rfl) (by kernel_rfl) (by kernel_rfl) (by kernel_rfl) (by kernel_rfl) (by kernel_rfl) (by kernel_rfl) (by kernel_rfl))
    ⟨_, WideRow.started_initial, quiet _⟩
    (fun os started _ H enc _ => lifted os started H enc)

end Go.Proofs.YbulkyfyFmt.withArgs

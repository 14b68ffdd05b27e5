/-
  DERIVED: THE SHELF's CONTRACTS AT THIS DUMP, IN PLAIN WORDS (tools/lay-plain.mjs out of 'YbulkyfyFmtShelf.lean', which tools/lay-shelf.mjs wrote): THE SAME DECLARATIONS UNDER THE SAME NAMES: 'import', 'namespace', 'open', 'def', 'theorem' AND NOTHING ELSE: no command of the shelf's: FOR A HAND-IN. Each laying: the table of numbers ('.._ren') and one theorem, a field a fact of the dump's own or the kernel's comparison; each contract: ONE APPLICATION.
-/
import Derived.Shelf.Strings.OnBuilder
import Derived.Shelf.Strings.Prefix
import Derived.Test.YbulkyfyFmtProg
namespace Go.Proofs
open Go.Shelf
def Ybaf.lays156_ren : Go.Shelf.Ren := ⟨fun | 156 => 10 | 165 => 13 | 166 => 14 | 169 => 15 | 240 => 16 | 241 => 17 | 276 => 18 | 277 => 19 | n => n, fun | 31 => 27 | 9 => 9 | 3 => 3 | 4 => 4 | 0 => 0 | 20 => 20 | 72 => 39 | 76 => 43 | 70 => 36 | 37 => 37 | 75 => 42 | 127 => 45 | 164 => 46 | 5 => 5 | 80 => 25 | n => n, fun | n => n⟩
theorem Ybaf.lays156 : Go.Proofs.Lays.n156 Ybaf.prog Ybaf.lays156_ren := {
  mixed := by kernel_rfl
  f156 := Ybaf.func10.trans (congrArg some (by kernel_rfl))
  f165 := Ybaf.func13.trans (congrArg some (by kernel_rfl))
  f166 := Ybaf.func14.trans (congrArg some (by kernel_rfl))
  f169 := Ybaf.func15.trans (congrArg some (by kernel_rfl))
  f240 := Ybaf.func16.trans (congrArg some (by kernel_rfl))
  f241 := Ybaf.func17.trans (congrArg some (by kernel_rfl))
  f276 := Ybaf.func18.trans (congrArg some (by kernel_rfl))
  f277 := Ybaf.func19.trans (congrArg some (by kernel_rfl))
  t0 := Ybaf.underlying0
  a0 := Ybaf.isAgg0
  z0 := Ybaf.sizeOf0
  v0 := Ybaf.zeroValue0
  t3 := Ybaf.underlying3
  a3 := Ybaf.isAgg3
  z3 := Ybaf.sizeOf3
  v3 := Ybaf.zeroValue3
  t4 := Ybaf.underlying4
  a4 := Ybaf.isAgg4
  z4 := Ybaf.sizeOf4
  v4 := Ybaf.zeroValue4
  t9 := Ybaf.underlying9
  a9 := Ybaf.isAgg9
  z9 := Ybaf.sizeOf9
  v9 := Ybaf.zeroValue9
  t20 := Ybaf.underlying20
  a20 := Ybaf.isAgg20
  z20 := Ybaf.sizeOf20
  v20 := Ybaf.zeroValue20
  t31 := Ybaf.underlying27
  a31 := Ybaf.isAgg27
  z31 := Ybaf.sizeOf27
  v31 := Ybaf.zeroValue27
  t37 := Ybaf.underlying37
  a37 := Ybaf.isAgg37
  z37 := Ybaf.sizeOf37
  v37 := Ybaf.zeroValue37
  t70 := Ybaf.underlying36
  a70 := Ybaf.isAgg36
  z70 := Ybaf.sizeOf36
  v70 := Ybaf.zeroValue36
  t72 := Ybaf.underlying39
  a72 := Ybaf.isAgg39
  z72 := Ybaf.sizeOf39
  v72 := Ybaf.zeroValue39
  t75 := Ybaf.underlying42
  a75 := Ybaf.isAgg42
  z75 := Ybaf.sizeOf42
  v75 := Ybaf.zeroValue42
  t76 := Ybaf.underlying43
  a76 := Ybaf.isAgg43
  z76 := Ybaf.sizeOf43
  v76 := Ybaf.zeroValue43
  t127 := Ybaf.underlying45
  a127 := Ybaf.isAgg45
  z127 := Ybaf.sizeOf45
  v127 := Ybaf.zeroValue45
  t164 := Ybaf.underlying46
  a164 := Ybaf.isAgg46
  z164 := Ybaf.sizeOf46
  v164 := Ybaf.zeroValue46 }
theorem Ybaf.Builder_Extra_156 : Builder.Extra Ybaf.prog Ybaf.lays156_ren := {
  sizeBuilder := by kernel_rfl
  liesBuilder := by kernel_rfl
  t5 := Ybaf.underlying5
  a5 := Ybaf.isAgg5
  z5 := Ybaf.sizeOf5
  v5 := Ybaf.zeroValue5
  infoByte := by kernel_rfl
  cellsByte := by kernel_rfl
  sizeByte := by kernel_rfl
  neB5 := by decide }
open Go.RowKit in
theorem Ybaf.strings_Join_none (a : Option Addr) (c : Nat) (sep : ByteArray) (w : World) :
    Calls Ybaf.prog 10 #[.slice a 0 c, .string sep] w fun e w' => e = .returned (.string ⟨#[]⟩) ∧ w' = w := Any.strings_Join_none Ybaf.lays156 Ybaf.Builder_Extra_156 a c sep w
open Go.RowKit in
theorem Ybaf.strings_Join (bk o c : Nat) (xs : List ByteArray) (sep : ByteArray) (w : World) (hcells : ∀ (j : Nat) x, xs[j]? = some x → w.cell? ⟨bk, o + j, none⟩ = some (.string x)) (hbk : bk < w.heap.size) (hN : xs.length ≤ 140737488355328) (hcap : xs.length ≤ c) (hlen : (Lib.join (xs.map (·.data.toList)) sep.data.toList).length ≤ 140737488355328) :
    Calls Ybaf.prog 10 #[.slice (some ⟨bk, o, none⟩) xs.length c, .string sep] w fun e w' => e = .returned (.string ⟨(Lib.join (xs.map (·.data.toList)) sep.data.toList).toArray⟩) ∧ Below w.heap.size w w' := Any.strings_Join Ybaf.lays156 Ybaf.Builder_Extra_156 bk o c xs sep w hcells hbk hN hcap hlen
def Ybaf.lays99_ren : Go.Shelf.Ren := ⟨fun | 99 => 7 | 206 => 11 | n => n, fun | 9 => 9 | 4 => 4 | 3 => 3 | n => n, fun | n => n⟩
theorem Ybaf.lays99 : Go.Proofs.Lays.n99 Ybaf.prog Ybaf.lays99_ren := {
  mixed := by kernel_rfl
  f99 := Ybaf.func7.trans (congrArg some (by kernel_rfl))
  f206 := Ybaf.func11.trans (congrArg some (by kernel_rfl))
  t3 := Ybaf.underlying3
  a3 := Ybaf.isAgg3
  z3 := Ybaf.sizeOf3
  v3 := Ybaf.zeroValue3
  t4 := Ybaf.underlying4
  a4 := Ybaf.isAgg4
  z4 := Ybaf.sizeOf4
  v4 := Ybaf.zeroValue4
  t9 := Ybaf.underlying9
  a9 := Ybaf.isAgg9
  z9 := Ybaf.sizeOf9
  v9 := Ybaf.zeroValue9 }
open Go.RowKit Go.Lib in
theorem Ybaf.strings_HasPrefix (s p : ByteArray) (w : World) :
    Calls Ybaf.prog 7 #[.string s, .string p] w fun e w' => e = .returned (.bool (Lib.hasPrefix s.data.toList p.data.toList)) ∧ w' = w := Any.strings_HasPrefix Ybaf.lays99 s p w
def Ybaf.lays100_ren : Go.Shelf.Ren := ⟨fun | 100 => 8 | 207 => 12 | n => n, fun | 9 => 9 | 4 => 4 | 3 => 3 | n => n, fun | n => n⟩
theorem Ybaf.lays100 : Go.Proofs.Lays.n100 Ybaf.prog Ybaf.lays100_ren := {
  mixed := by kernel_rfl
  f100 := Ybaf.func8.trans (congrArg some (by kernel_rfl))
  f207 := Ybaf.func12.trans (congrArg some (by kernel_rfl))
  t3 := Ybaf.underlying3
  a3 := Ybaf.isAgg3
  z3 := Ybaf.sizeOf3
  v3 := Ybaf.zeroValue3
  t4 := Ybaf.underlying4
  a4 := Ybaf.isAgg4
  z4 := Ybaf.sizeOf4
  v4 := Ybaf.zeroValue4
  t9 := Ybaf.underlying9
  a9 := Ybaf.isAgg9
  z9 := Ybaf.sizeOf9
  v9 := Ybaf.zeroValue9 }
open Go.RowKit Go.Lib in
theorem Ybaf.strings_HasSuffix (s p : ByteArray) (w : World) (hs : s.size ≤ 9223372036854775807) :
    Calls Ybaf.prog 8 #[.string s, .string p] w fun e w' => e = .returned (.bool (Lib.hasSuffix s.data.toList p.data.toList)) ∧ w' = w := Any.strings_HasSuffix Ybaf.lays100 s p w hs
end Go.Proofs

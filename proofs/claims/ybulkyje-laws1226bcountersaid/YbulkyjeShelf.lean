/-
  DERIVED: THE SHELF's CONTRACTS AT THIS DUMP, IN PLAIN WORDS (tools/lay-plain.mjs out of 'YbulkyjeShelf.lean', which tools/lay-shelf.mjs wrote): THE SAME DECLARATIONS UNDER THE SAME NAMES: 'import', 'namespace', 'open', 'def', 'theorem' AND NOTHING ELSE: no command of the shelf's: FOR A HAND-IN. Each laying: the table of numbers ('.._ren') and one theorem, a field a fact of the dump's own or the kernel's comparison; each contract: ONE APPLICATION.
-/
import Derived.Shelf.Sort.Plain
import Derived.Ground.Names2Prog
import Derived.Shelf.Slices.Clone
import Derived.Shelf.Slices.CompactS
import Derived.Shelf.Slices.In.SortNone
import Derived.Shelf.Spec.SearchS
import Derived.Test.YbulkyjeProg
namespace Go.Proofs
open Go.Shelf
def Yba.lays190_ren : Go.Shelf.Ren := ⟨fun | 190 => 7 | 125 => 11 | 258 => 10 | 128 => 22 | 129 => 23 | 302 => 14 | 303 => 15 | 304 => 16 | 305 => 17 | 306 => 18 | 307 => 19 | 308 => 12 | 309 => 20 | 310 => 21 | 333 => 25 | 329 => 26 | 330 => 27 | 334 => 28 | 335 => 29 | 336 => 24 | 344 => 30 | n => n, fun | 31 => 22 | 9 => 9 | 3 => 3 | 46 => 38 | 0 => 0 | 51 => 49 | 53 => 29 | 4 => 4 | 183 => 43 | 182 => 42 | 131 => 34 | 5 => 5 | 218 => 51 | 222 => 55 | 228 => 57 | 229 => 58 | n => n, fun | n => n⟩
theorem Yba.lays190 : Go.Proofs.Lays.n190 Yba.prog Yba.lays190_ren := {
  mixed := by kernel_rfl
  f125 := Yba.func11.trans (congrArg some (by kernel_rfl))
  f128 := Yba.func22.trans (congrArg some (by kernel_rfl))
  f129 := Yba.func23.trans (congrArg some (by kernel_rfl))
  f190 := Yba.func7.trans (congrArg some (by kernel_rfl))
  f258 := Yba.func10.trans (congrArg some (by kernel_rfl))
  f302 := Yba.func14.trans (congrArg some (by kernel_rfl))
  f303 := Yba.func15.trans (congrArg some (by kernel_rfl))
  f304 := Yba.func16.trans (congrArg some (by kernel_rfl))
  f305 := Yba.func17.trans (congrArg some (by kernel_rfl))
  f306 := Yba.func18.trans (congrArg some (by kernel_rfl))
  f307 := Yba.func19.trans (congrArg some (by kernel_rfl))
  f308 := Yba.func12.trans (congrArg some (by kernel_rfl))
  f309 := Yba.func20.trans (congrArg some (by kernel_rfl))
  f310 := Yba.func21.trans (congrArg some (by kernel_rfl))
  f329 := Yba.func26.trans (congrArg some (by kernel_rfl))
  f330 := Yba.func27.trans (congrArg some (by kernel_rfl))
  f333 := Yba.func25.trans (congrArg some (by kernel_rfl))
  f334 := Yba.func28.trans (congrArg some (by kernel_rfl))
  f335 := Yba.func29.trans (congrArg some (by kernel_rfl))
  f336 := Yba.func24.trans (congrArg some (by kernel_rfl))
  f344 := Yba.func30.trans (congrArg some (by kernel_rfl))
  t0 := Yba.underlying0
  a0 := Yba.isAgg0
  z0 := Yba.sizeOf0
  v0 := Yba.zeroValue0
  t3 := Yba.underlying3
  a3 := Yba.isAgg3
  z3 := Yba.sizeOf3
  v3 := Yba.zeroValue3
  t4 := Yba.underlying4
  a4 := Yba.isAgg4
  z4 := Yba.sizeOf4
  v4 := Yba.zeroValue4
  t5 := Yba.underlying5
  a5 := Yba.isAgg5
  z5 := Yba.sizeOf5
  v5 := Yba.zeroValue5
  t9 := Yba.underlying9
  a9 := Yba.isAgg9
  z9 := Yba.sizeOf9
  v9 := Yba.zeroValue9
  t31 := Yba.underlying22
  a31 := Yba.isAgg22
  z31 := Yba.sizeOf22
  v31 := Yba.zeroValue22
  t46 := Yba.underlying38
  a46 := Yba.isAgg38
  z46 := Yba.sizeOf38
  v46 := Yba.zeroValue38
  t51 := Yba.underlying49
  a51 := Yba.isAgg49
  z51 := Yba.sizeOf49
  v51 := Yba.zeroValue49
  t53 := Yba.underlying29
  a53 := Yba.isAgg29
  z53 := Yba.sizeOf29
  v53 := Yba.zeroValue29
  t131 := Yba.underlying34
  a131 := Yba.isAgg34
  z131 := Yba.sizeOf34
  v131 := Yba.zeroValue34
  t182 := Yba.underlying42
  a182 := Yba.isAgg42
  z182 := Yba.sizeOf42
  v182 := Yba.zeroValue42
  t183 := Yba.underlying43
  a183 := Yba.isAgg43
  z183 := Yba.sizeOf43
  v183 := Yba.zeroValue43
  t218 := Yba.underlying51
  a218 := Yba.isAgg51
  z218 := Yba.sizeOf51
  v218 := Yba.zeroValue51
  t222 := Yba.underlying55
  a222 := Yba.isAgg55
  z222 := Yba.sizeOf55
  v222 := Yba.zeroValue55
  t228 := Yba.underlying57
  a228 := Yba.isAgg57
  z228 := Yba.sizeOf57
  v228 := Yba.zeroValue57
  t229 := Yba.underlying58
  a229 := Yba.isAgg58
  z229 := Yba.sizeOf58
  v229 := Yba.zeroValue58 }
open Go.Sort Go.RowKit in
theorem Yba.slices_Sort_string (blk off cap : Nat) (ss : List (List UInt8)) (w : World) (hH : Holds encStr w blk off ss.toArray) (hblk : blk < w.heap.size) (hsz : ss.length < 4611686018427387904) :
    Calls Yba.prog 7 #[.slice (some ⟨blk, off, none⟩) ss.length cap] w fun e w' =>
      e = .returned (.tuple #[]) ∧ ∃ n os, w' = grow (putRow encStr (Sort.ahead w n) blk off (ss.mergeSort fun x y => decide (x ≤ y)).toArray) os := Any.slices_Sort_string Yba.lays190 blk off cap ss w hH hblk hsz
def Yba.laysNm216_ren : Go.Shelf.Ren := ⟨fun | 16 => 6 | n => n, fun | 24 => 22 | 9 => 9 | 4 => 4 | n => n, fun | n => n⟩
theorem Yba.laysNm216 : Go.Proofs.Lays2.n16 Yba.prog Yba.laysNm216_ren := {
  mixed := by kernel_rfl
  f16 := Yba.func6.trans (congrArg some (by kernel_rfl))
  t4 := Yba.underlying4
  a4 := Yba.isAgg4
  z4 := Yba.sizeOf4
  v4 := Yba.zeroValue4
  t9 := Yba.underlying9
  a9 := Yba.isAgg9
  z9 := Yba.sizeOf9
  v9 := Yba.zeroValue9
  t24 := Yba.underlying22
  a24 := Yba.isAgg22
  z24 := Yba.sizeOf22
  v24 := Yba.zeroValue22
  i9 := by kernel_rfl }
open Go.RowKit Go.Lib in
theorem Yba.slices_Clone_string (b off n c : Nat) (zs : List ByteArray) (w : World) (hz : n ≤ zs.length) (hbig : n * 16 ≤ 140737488355328) (hc : ∀ j, j < zs.length → w.cell? ⟨b, off + j, none⟩ = some (.string (zs.getD j ByteArray.empty))) :
    Calls Yba.prog 6 #[.slice (some ⟨b, off, none⟩) n c] w fun e w' => ∃ v', e = .returned v' ∧ w'.ownsRow w.heap.size 9 1 v' n ((zs.take n).map (Value.string)) ∧ v' ≠ .slice none 0 0 ∧ Below w.heap.size w w' := Any.slices_Clone_string Yba.laysNm216 b off n c zs w hz hbig hc
open Go.RowKit Go.Lib in
theorem Yba.slices_Clone_string_nil (n c : Nat) (w : World) :
    Calls Yba.prog 6 #[.slice none n c] w fun e w' => e = .returned (.slice none 0 0) ∧ w' = w := Any.slices_Clone_string_nil Yba.laysNm216 n c w
open Go.RowKit Go.Lib in
theorem Yba.slices_Clone_string_zero (a : Addr) (c : Nat) (w : World) :
    Calls Yba.prog 6 #[.slice (some a) 0 c] w fun e w' => ∃ v', e = .returned v' ∧ w'.ownsRow w.heap.size 9 1 v' 0 [] ∧ v' ≠ .slice none 0 0 ∧ Below w.heap.size w w' := Any.slices_Clone_string_zero Yba.laysNm216 a c w
def Yba.lays194_ren : Go.Shelf.Ren := ⟨fun | 194 => 8 | n => n, fun | 31 => 22 | 9 => 9 | 3 => 3 | 4 => 4 | 0 => 0 | n => n, fun | n => n⟩
theorem Yba.lays194 : Go.Proofs.Lays.n194 Yba.prog Yba.lays194_ren := {
  mixed := by kernel_rfl
  f194 := Yba.func8.trans (congrArg some (by kernel_rfl))
  t0 := Yba.underlying0
  a0 := Yba.isAgg0
  z0 := Yba.sizeOf0
  v0 := Yba.zeroValue0
  t3 := Yba.underlying3
  a3 := Yba.isAgg3
  z3 := Yba.sizeOf3
  v3 := Yba.zeroValue3
  t4 := Yba.underlying4
  a4 := Yba.isAgg4
  z4 := Yba.sizeOf4
  v4 := Yba.zeroValue4
  t9 := Yba.underlying9
  a9 := Yba.isAgg9
  z9 := Yba.sizeOf9
  v9 := Yba.zeroValue9
  t31 := Yba.underlying22
  a31 := Yba.isAgg22
  z31 := Yba.sizeOf22
  v31 := Yba.zeroValue22 }
open Go.RowKit Go.Lib Go.Sort in
theorem Yba.slices_Compact_string (blk off cap : Nat) (zs : List (List UInt8)) (w : World) (hH : Holds encStr w blk off zs.toArray) (hsz : zs.length ≤ 9223372036854775807) (hcap : zs.length ≤ cap) :
    Calls Yba.prog 8 #[.slice (some ⟨blk, off, none⟩) zs.length cap] w fun e w' => e = .returned (.slice (some ⟨blk, off, none⟩) (Lib.compact zs).length cap) ∧ ∃ q, w' = putRow encStr (Sort.ahead w q) blk off (Lib.compact zs ++ List.replicate (zs.length - (Lib.compact zs).length) []).toArray := Any.slices_Compact_string Yba.lays194 blk off cap zs w hH hsz hcap
open Go.RowKit Go.Lib Go.Sort in
theorem Yba.slices_Compact_string_empty (a : Option Addr) (cap : Nat) (w : World) :
    Calls Yba.prog 8 #[.slice a 0 cap] w fun e w' => e = .returned (.slice a 0 cap) ∧ w' = w := Any.slices_Compact_string_empty Yba.lays194 a cap w
open Go.RowKit Go.Sort in
theorem Yba.slices_Sort_string_none (p : Option Addr) (cap : Nat) (w : World) :
    Calls Yba.prog 7 #[.slice p 0 cap] w fun e w' => e = .returned (.tuple #[]) ∧ w' = w := Any.slices_Sort_string_none Yba.lays190 p cap w
def Yba.laysNm226_ren : Go.Shelf.Ren := ⟨fun | 26 => 9 | 33 => 12 | 34 => 13 | 38 => 24 | n => n, fun | 24 => 22 | 9 => 9 | 3 => 3 | 4 => 4 | 40 => 38 | 0 => 0 | n => n, fun | n => n⟩
theorem Yba.laysNm226 : Go.Proofs.Lays2.n26 Yba.prog Yba.laysNm226_ren := {
  mixed := by kernel_rfl
  f26 := Yba.func9.trans (congrArg some (by kernel_rfl))
  f33 := Yba.func12.trans (congrArg some (by kernel_rfl))
  f34 := Yba.func13.trans (congrArg some (by kernel_rfl))
  f38 := Yba.func24.trans (congrArg some (by kernel_rfl))
  t0 := Yba.underlying0
  a0 := Yba.isAgg0
  z0 := Yba.sizeOf0
  v0 := Yba.zeroValue0
  t3 := Yba.underlying3
  a3 := Yba.isAgg3
  z3 := Yba.sizeOf3
  v3 := Yba.zeroValue3
  t4 := Yba.underlying4
  a4 := Yba.isAgg4
  z4 := Yba.sizeOf4
  v4 := Yba.zeroValue4
  t9 := Yba.underlying9
  a9 := Yba.isAgg9
  z9 := Yba.sizeOf9
  v9 := Yba.zeroValue9
  t24 := Yba.underlying22
  a24 := Yba.isAgg22
  z24 := Yba.sizeOf22
  v24 := Yba.zeroValue22
  t40 := Yba.underlying38
  a40 := Yba.isAgg38
  z40 := Yba.sizeOf38
  v40 := Yba.zeroValue38 }
open Go.RowKit Go.Lib in
theorem Yba.slices_BinarySearch_string (b off n c : Nat) (Sx : Nat → ByteArray) (x : ByteArray) (w : World) (hbig : n < 4611686018427387904) (hc : ∀ j, j < n → w.cell? ⟨b, off + j, none⟩ = some (.string (Sx j))) :
    Calls Yba.prog 9 #[.slice (some ⟨b, off, none⟩) n c, .string x] w fun e w' => e = .returned (.tuple #[.int .i64 (Lib.bsGo (fun t => Op.bytesLess (Sx t).toList x.toList) n 0 n : Nat), .bool (decide (Lib.bsGo (fun t => Op.bytesLess (Sx t).toList x.toList) n 0 n < n ∧ Sx (Lib.bsGo (fun t => Op.bytesLess (Sx t).toList x.toList) n 0 n) = x))]) ∧ ∃ q, w' = w.drewN q := Any2.slices_BinarySearch_string Yba.laysNm226 b off n c Sx x w hbig hc
open Go.RowKit Go.Lib in
theorem Yba.slices_BinarySearch_string_empty (a : Option Addr) (c : Nat) (x : ByteArray) (w : World) :
    Calls Yba.prog 9 #[.slice a 0 c, .string x] w fun e w' => e = .returned (.tuple #[.int .i64 0, .bool false]) ∧ w' = w := Any2.slices_BinarySearch_string_empty Yba.laysNm226 a c x w
end Go.Proofs

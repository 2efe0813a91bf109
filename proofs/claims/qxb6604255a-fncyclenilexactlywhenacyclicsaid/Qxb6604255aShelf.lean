/-
  DERIVED: THE SHELF's CONTRACTS AT THIS DUMP, IN PLAIN WORDS (tools/lay-plain.mjs out of 'TryShelf.lean', which tools/lay-shelf.mjs wrote): THE SAME DECLARATIONS UNDER THE SAME NAMES: 'import', 'namespace', 'open', 'def', 'theorem' AND NOTHING ELSE: no command of the shelf's: FOR A HAND-IN. Each laying: the table of numbers ('.._ren') and one theorem, a field a fact of the dump's own or the kernel's comparison; each contract: ONE APPLICATION.
-/
import Derived.Shelf.Slices.Turned
import Derived.Shelf.Slices.Reverse
import Derived.Shelf.Slices.Cells
import Derived.Test.Qxb6604255aProg
namespace Go.Proofs
open Go.Shelf
def Try.lays108_ren : Go.Shelf.Ren := ⟨fun | 108 => 22 | n => n, fun | 28 => 26 | 3 => 3 | 0 => 0 | 4 => 4 | n => n, fun | n => n⟩
theorem Try.lays108 : Go.Proofs.Lays.n108 Try.prog Try.lays108_ren := {
  mixed := by kernel_rfl
  f108 := Try.func22.trans (congrArg some (by kernel_rfl))
  t0 := Try.underlying0
  a0 := Try.isAgg0
  z0 := Try.sizeOf0
  v0 := Try.zeroValue0
  t3 := Try.underlying3
  a3 := Try.isAgg3
  z3 := Try.sizeOf3
  v3 := Try.zeroValue3
  t4 := Try.underlying4
  a4 := Try.isAgg4
  z4 := Try.sizeOf4
  v4 := Try.zeroValue4
  t28 := Try.underlying26
  a28 := Try.isAgg26
  z28 := Try.sizeOf26
  v28 := Try.zeroValue26 }
open Go.Lib in
/-- slices.Index at []int: "Index returns the index of the first occurrence of v in s, or -1 if not present.": IT RETURNS 'Lib.idxOf (the elements) v'; the world is as it was. 'zs': what the cells behind the slice's address hold (its spare capacity too, if you have it); 'zs.take n': its elements. (LAID: no walk: one application.) -/
theorem Try.slices_Index_int (b off n c : Nat) (zs : List Int) (x : Int) (w : World) (hz : n ≤ zs.length) (hbig : n ≤ 9223372036854775807) (hc : ∀ j, j < zs.length → w.cell? ⟨b, off + j, none⟩ = some (.int .i64 (zs.getD j 0))) :
    Calls Try.prog 22 #[.slice (some ⟨b, off, none⟩) n c, .int .i64 x] w fun e w' => e = .returned (.int .i64 (Lib.idxOf (zs.take n) x)) ∧ w' = w := Any.slices_Index_int Try.lays108 b off n c zs x w hz hbig hc
open Go.Lib in
/-- The same at a slice of length 0, a nil one too: no cell is known, none is asked for. (LAID: no walk: one application.) -/
theorem Try.slices_Index_int_empty (a : Option Addr) (c : Nat) (x : Int) (w : World) :
    Calls Try.prog 22 #[.slice a 0 c, .int .i64 x] w fun e w' => e = .returned (.int .i64 (Lib.idxOf [] x)) ∧ w' = w := Any.slices_Index_int_empty Try.lays108 a c x w
def Try.lays114_ren : Go.Shelf.Ren := ⟨fun | 114 => 23 | n => n, fun | 28 => 26 | 3 => 3 | 4 => 4 | 9 => 9 | 20 => 20 | 0 => 0 | n => n, fun | n => n⟩
theorem Try.lays114 : Go.Proofs.Lays.n114 Try.prog Try.lays114_ren := {
  mixed := by kernel_rfl
  f114 := Try.func23.trans (congrArg some (by kernel_rfl))
  t0 := Try.underlying0
  a0 := Try.isAgg0
  z0 := Try.sizeOf0
  v0 := Try.zeroValue0
  t3 := Try.underlying3
  a3 := Try.isAgg3
  z3 := Try.sizeOf3
  v3 := Try.zeroValue3
  t4 := Try.underlying4
  a4 := Try.isAgg4
  z4 := Try.sizeOf4
  v4 := Try.zeroValue4
  t9 := Try.underlying9
  a9 := Try.isAgg9
  z9 := Try.sizeOf9
  v9 := Try.zeroValue9
  t20 := Try.underlying20
  a20 := Try.isAgg20
  z20 := Try.sizeOf20
  v20 := Try.zeroValue20
  t28 := Try.underlying26
  a28 := Try.isAgg26
  z28 := Try.sizeOf26
  v28 := Try.zeroValue26 }
open Go.Lib in
/-- slices.Min at []int: "Min returns the minimal value in x. It panics if x is empty.": OF A SLICE THAT IS NOT EMPTY IT RETURNS 'Lib.minOf (the elements)'; the world is as it was. (Of an empty one it panics: no contract here.) (LAID: no walk: one application.) -/
theorem Try.slices_Min_int (b off n c : Nat) (zs : List Int) (w : World) (hn : 0 < n) (hz : n ≤ zs.length) (hbig : n ≤ 9223372036854775807) (hc : ∀ j, j < zs.length → w.cell? ⟨b, off + j, none⟩ = some (.int .i64 (zs.getD j 0))) :
    Calls Try.prog 23 #[.slice (some ⟨b, off, none⟩) n c] w fun e w' => e = .returned (.int .i64 (Lib.minOf (zs.take n))) ∧ w' = w := Any.slices_Min_int Try.lays114 b off n c zs w hn hz hbig hc
def Try.lays112_ren : Go.Shelf.Ren := ⟨fun | 112 => 21 | n => n, fun | 28 => 26 | 3 => 3 | 4 => 4 | 0 => 0 | n => n, fun | n => n⟩
theorem Try.lays112 : Go.Proofs.Lays.n112 Try.prog Try.lays112_ren := {
  mixed := by kernel_rfl
  f112 := Try.func21.trans (congrArg some (by kernel_rfl))
  t0 := Try.underlying0
  a0 := Try.isAgg0
  z0 := Try.sizeOf0
  v0 := Try.zeroValue0
  t3 := Try.underlying3
  a3 := Try.isAgg3
  z3 := Try.sizeOf3
  v3 := Try.zeroValue3
  t4 := Try.underlying4
  a4 := Try.isAgg4
  z4 := Try.sizeOf4
  v4 := Try.zeroValue4
  t28 := Try.underlying26
  a28 := Try.isAgg26
  z28 := Try.sizeOf26
  v28 := Try.zeroValue26 }
open Go.RowKit Go.Lib Go.Sort in
/-- slices.Reverse at []int, over an array: Go's loop from the two ends inward is walked; it makes 'Sort.reverseLoop 0 (len - 1)', which is 'Array.reverse' (Derived/Lib/SlicesMore.lean). (LAID: no walk: one application.) -/
theorem Try.slices_Reverse_int_arr (blk off cap : Nat) (d : Array Int) (w : World) (hH : Holds encI w blk off d) (hsz : d.size ≤ 9223372036854775807) :
    Calls Try.prog 21 #[.slice (some ⟨blk, off, none⟩) d.size cap] w fun e w' => e = .returned (.tuple #[]) ∧ ∃ n, w' = putRow encI (Sort.ahead w n) blk off d.reverse := Any.slices_Reverse_int_arr Try.lays112 blk off cap d w hH hsz
open Go.RowKit Go.Lib Go.Sort in
/-- slices.Reverse at []int: "Reverse reverses the elements of the slice in place.": THE SLICE's CELLS HOLD 'zs.reverse' BEHIND THE CALL; all else is as it was, but for the count of draws (the exchange 's[i], s[j] = s[j], s[i]' draws its order, once a round). IN THE WORDS OF slices.Sort's CONTRACT: 'Holds': the cells hold zs and none is frozen; 'putRow': the world with those cells holding another array. A slice of length 0 that is not nil is among them ('zs = []'); nil: '.._nil'. (LAID: no walk: one application.) -/
theorem Try.slices_Reverse_int (blk off cap : Nat) (zs : List Int) (w : World) (hH : Holds (Value.int .i64) w blk off zs.toArray) (hsz : zs.length ≤ 9223372036854775807) :
    Calls Try.prog 21 #[.slice (some ⟨blk, off, none⟩) zs.length cap] w fun e w' => e = .returned (.tuple #[]) ∧ ∃ n, w' = putRow (Value.int .i64) (Sort.ahead w n) blk off zs.reverse.toArray := Any.slices_Reverse_int Try.lays112 blk off cap zs w hH hsz
open Go.RowKit Go.Lib Go.Sort in
/-- The same at a slice of length 0, a nil one too: nothing is read, nothing written, nothing drawn. (LAID: no walk: one application.) -/
theorem Try.slices_Reverse_int_empty (a : Option Addr) (cap : Nat) (w : World) :
    Calls Try.prog 21 #[.slice a 0 cap] w fun e w' => e = .returned (.tuple #[]) ∧ w' = w := Any.slices_Reverse_int_empty Try.lays112 a cap w
open Go.RowKit Go.Lib Go.Sort in
/-- slices.Reverse at []int, of an argument: the n cells hold the elements in reverse. (LAID: no walk: one application.) -/
theorem Try.slices_Reverse_int_cells (b off n c : Nat) (zs : List Int) (w : World) (hz : n ≤ zs.length) (hbig : n ≤ 9223372036854775807) (hc : ∀ j, j < zs.length → w.cell? ⟨b, off + j, none⟩ = some (.int .i64 (zs.getD j 0))) (hf : ∀ j, j < n → w.frozen? ⟨b, off + j, none⟩ = false) :
    Calls Try.prog 21 #[.slice (some ⟨b, off, none⟩) n c] w fun e w' => e = .returned (.tuple #[]) ∧ ∃ q, w' = (w.drewN q).setCells b off ((zs.take n).reverse.map (Value.int .i64)) := Any.slices_Reverse_int_cells Try.lays112 b off n c zs w hz hbig hc hf
end Go.Proofs

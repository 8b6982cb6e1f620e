/-
  DERIVED: THE SHELF's CONTRACTS AT THIS DUMP, IN PLAIN WORDS (tools/lay-plain.mjs out of 'YbaShelf.lean', which tools/lay-shelf.mjs wrote): THE SAME DECLARATIONS UNDER THE SAME NAMES: 'import', 'namespace', 'open', 'def', 'theorem' AND NOTHING ELSE: no command of the shelf's: FOR A HAND-IN. Each laying: the table of numbers ('.._ren') and one theorem, a field a fact of the dump's own or the kernel's comparison; each contract: ONE APPLICATION.
-/
import Derived.Shelf.Slices.Turned
import Derived.Shelf.Slices.Equal
import Derived.Shelf.Slices.Empties2
import Derived.Test.YbulkajomProg
namespace Go.Proofs.Ybulkajom
open Go.Shelf
def Yba.lays108_ren : Go.Shelf.Ren := ⟨fun | 108 => 22 | n => n, fun | 28 => 22 | 3 => 3 | 0 => 0 | 4 => 4 | n => n, fun | n => n⟩
theorem Yba.lays108 : Go.Proofs.Lays.n108 Yba.prog Yba.lays108_ren := {
  mixed := by kernel_rfl
  f108 := Yba.func22.trans (congrArg some (by kernel_rfl))
  t0 := Yba.underlying0
  a0 := Yba.isAgg0
  z0 := Yba.sizeOf0
  v0 := Yba.zeroValue0
  t3 := Yba.underlying3
  a3 := Yba.isAgg3
  z3 := Yba.sizeOf3
  v3 := Yba.zeroValue3
  t4 := Yba.underlying4
  a4 := Yba.isAgg4
  z4 := Yba.sizeOf4
  v4 := Yba.zeroValue4
  t28 := Yba.underlying22
  a28 := Yba.isAgg22
  z28 := Yba.sizeOf22
  v28 := Yba.zeroValue22 }
open Go.Lib in
/-- slices.Index at []int: "Index returns the index of the first occurrence of v in s, or -1 if not present.": IT RETURNS 'Lib.idxOf (the elements) v'; the world is as it was. 'zs': what the cells behind the slice's address hold (its spare capacity too, if you have it); 'zs.take n': its elements. (LAID: no walk: one application.) -/
theorem Yba.slices_Index_int (b off n c : Nat) (zs : List Int) (x : Int) (w : World) (hz : n ≤ zs.length) (hbig : n ≤ 9223372036854775807) (hc : ∀ j, j < zs.length → w.cell? ⟨b, off + j, none⟩ = some (.int .i64 (zs.getD j 0))) :
    Calls Yba.prog 22 #[.slice (some ⟨b, off, none⟩) n c, .int .i64 x] w fun e w' => e = .returned (.int .i64 (Lib.idxOf (zs.take n) x)) ∧ w' = w := Any.slices_Index_int Yba.lays108 b off n c zs x w hz hbig hc
open Go.Lib in
/-- The same at a slice of length 0, a nil one too: no cell is known, none is asked for. (LAID: no walk: one application.) -/
theorem Yba.slices_Index_int_empty (a : Option Addr) (c : Nat) (x : Int) (w : World) :
    Calls Yba.prog 22 #[.slice a 0 c, .int .i64 x] w fun e w' => e = .returned (.int .i64 (Lib.idxOf [] x)) ∧ w' = w := Any.slices_Index_int_empty Yba.lays108 a c x w
def Yba.lays107_ren : Go.Shelf.Ren := ⟨fun | 107 => 10 | 108 => 22 | n => n, fun | 28 => 22 | 3 => 3 | 4 => 4 | 0 => 0 | n => n, fun | n => n⟩
theorem Yba.lays107 : Go.Proofs.Lays.n107 Yba.prog Yba.lays107_ren := {
  mixed := by kernel_rfl
  f107 := Yba.func10.trans (congrArg some (by kernel_rfl))
  f108 := Yba.func22.trans (congrArg some (by kernel_rfl))
  t0 := Yba.underlying0
  a0 := Yba.isAgg0
  z0 := Yba.sizeOf0
  v0 := Yba.zeroValue0
  t3 := Yba.underlying3
  a3 := Yba.isAgg3
  z3 := Yba.sizeOf3
  v3 := Yba.zeroValue3
  t4 := Yba.underlying4
  a4 := Yba.isAgg4
  z4 := Yba.sizeOf4
  v4 := Yba.zeroValue4
  t28 := Yba.underlying22
  a28 := Yba.isAgg22
  z28 := Yba.sizeOf22
  v28 := Yba.zeroValue22 }
open Go.Lib in
/-- slices.Contains at []int: "Contains reports whether v is present in s.": IT RETURNS 'elements.contains v'; the world is as it was. ITS CALLEE slices.Index IS MET BY ITS OWN CONTRACT OFF THE SHELF (lay that first): no loop is walked here. (LAID: no walk: one application.) -/
theorem Yba.slices_Contains_int (b off n c : Nat) (zs : List Int) (x : Int) (w : World) (hz : n ≤ zs.length) (hbig : n ≤ 9223372036854775807) (hc : ∀ j, j < zs.length → w.cell? ⟨b, off + j, none⟩ = some (.int .i64 (zs.getD j 0))) :
    Calls Yba.prog 10 #[.slice (some ⟨b, off, none⟩) n c, .int .i64 x] w fun e w' => e = .returned (.bool ((zs.take n).contains x)) ∧ w' = w := Any.slices_Contains_int Yba.lays107 b off n c zs x w hz hbig hc
open Go.Lib in
/-- The same at a slice of length 0, a nil one too. (LAID: no walk: one application.) -/
theorem Yba.slices_Contains_int_empty (a : Option Addr) (c : Nat) (x : Int) (w : World) :
    Calls Yba.prog 10 #[.slice a 0 c, .int .i64 x] w fun e w' => e = .returned (.bool false) ∧ w' = w := Any.slices_Contains_int_empty Yba.lays107 a c x w
def Yba.lays111_ren : Go.Shelf.Ren := ⟨fun | 111 => 11 | n => n, fun | 28 => 22 | 3 => 3 | 4 => 4 | 0 => 0 | n => n, fun | n => n⟩
theorem Yba.lays111 : Go.Proofs.Lays.n111 Yba.prog Yba.lays111_ren := {
  mixed := by kernel_rfl
  f111 := Yba.func11.trans (congrArg some (by kernel_rfl))
  t0 := Yba.underlying0
  a0 := Yba.isAgg0
  z0 := Yba.sizeOf0
  v0 := Yba.zeroValue0
  t3 := Yba.underlying3
  a3 := Yba.isAgg3
  z3 := Yba.sizeOf3
  v3 := Yba.zeroValue3
  t4 := Yba.underlying4
  a4 := Yba.isAgg4
  z4 := Yba.sizeOf4
  v4 := Yba.zeroValue4
  t28 := Yba.underlying22
  a28 := Yba.isAgg22
  z28 := Yba.sizeOf22
  v28 := Yba.zeroValue22 }
open Go.RowKit Go.Lib in
/-- slices.Equal at []int: "Equal reports whether two slices are equal: the same length and all elements equal. If the lengths are different, Equal returns false. Otherwise, the elements are compared in increasing index order, and the comparison stops at the first unequal pair. Empty and nil slices are considered equal.": IT RETURNS WHETHER THE TWO LISTS OF ELEMENTS ARE ONE; the world is as it was but for the count of draws (the test 's1[i] != s2[i]' has two reads, whose order the model draws, once a round). 'xs', 'ys': what the cells behind the two addresses hold (the spare capacity too, if you have it); 'xs.take n', 'ys.take m': the elements. THE TWO SLICES MAY OVERLAP. (LAID: no walk: one application.) -/
theorem Yba.slices_Equal_int (b1 o1 n c b2 o2 m d : Nat) (xs ys : List Int) (w : World) (hx : n ≤ xs.length) (hy : m ≤ ys.length) (hbig : n ≤ 9223372036854775807) (hbig2 : m ≤ 9223372036854775807) (hc1 : ∀ j, j < xs.length → w.cell? ⟨b1, o1 + j, none⟩ = some (.int .i64 (xs.getD j 0))) (hc2 : ∀ j, j < ys.length → w.cell? ⟨b2, o2 + j, none⟩ = some (.int .i64 (ys.getD j 0))) :
    Calls Yba.prog 11 #[.slice (some ⟨b1, o1, none⟩) n c, .slice (some ⟨b2, o2, none⟩) m d] w fun e w' => e = .returned (.bool (xs.take n == ys.take m)) ∧ ∃ q, w' = w.drewN q := Any.slices_Equal_int Yba.lays111 b1 o1 n c b2 o2 m d xs ys w hx hy hbig hbig2 hc1 hc2
open Go.RowKit Go.Lib in
/-- The same where the first is of length 0 (a nil one too): no cell is asked for. (LAID: no walk: one application.) -/
theorem Yba.slices_Equal_int_empty (a1 a2 : Option Addr) (c m d : Nat) (w : World) (hbig2 : m ≤ 9223372036854775807) :
    Calls Yba.prog 11 #[.slice a1 0 c, .slice a2 m d] w fun e w' => e = .returned (.bool (decide (m = 0))) ∧ w' = w := Any.slices_Equal_int_empty Yba.lays111 a1 a2 c m d w hbig2
open Go.RowKit Go.Lib in
theorem Yba.slices_Equal_int_lens (a1 a2 : Option Addr) (n c m d : Nat) (w : World) (hnm : n ≠ m) :
    Calls Yba.prog 11 #[.slice a1 n c, .slice a2 m d] w fun e w' => e = .returned (.bool false) ∧ w' = w := Any.slices_Equal_int_lens Yba.lays111 a1 a2 n c m d w hnm
end Go.Proofs.Ybulkajom

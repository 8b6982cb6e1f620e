import Derived.ChangeKeysEq
import Derived.WalkKit
import Derived.KernelRfl
import Derived.Test.YbulkajomProg
/-! 'a[i]' of an array of two ints by value. -/
namespace Go.Proofs.Ybulkajom.IndexLaw
open Go.RowKit
theorem info3 : (Yba.prog.info? 3).map (fun i => (i.zero, i.size, i.bytes)) = some (some (.int .i64 0), 1, 8) := by kernel_rfl
theorem plain3 : Yba.prog.plainKey 3 = true := by kernel_rfl
theorem index0 (x y : Value) (w : World) : (Instr.index 25 (.agg #[x, y]) (.int .i64 0)).run Yba.prog w = .ok x w := by
  obtain ⟨i0, hi, hz0, hz1, hz2⟩ := info_parts info3
  have hp := run_part_plain (P := Yba.prog) (w := w) plain3 (xs := #[x, y]) (off := 0) (v := x) rfl
  simp [Instr.index, asIntOf, run_underlying Yba.underlying25, sizeOf, typeInfo, hi, hp]
theorem index1 (x y : Value) (w : World) : (Instr.index 25 (.agg #[x, y]) (.int .i64 1)).run Yba.prog w = .ok y w := by
  obtain ⟨i0, hi, hz0, hz1, hz2⟩ := info_parts info3
  have hp := run_part_plain (P := Yba.prog) (w := w) plain3 (xs := #[x, y]) (off := 1) (v := y) rfl
  simp [Instr.index, asIntOf, run_underlying Yba.underlying25, sizeOf, typeInfo, hi, hz1, hp]
end Go.Proofs.Ybulkajom.IndexLaw

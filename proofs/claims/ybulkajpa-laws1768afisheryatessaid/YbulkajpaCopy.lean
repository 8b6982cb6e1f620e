import Derived.Test.YbulkajpaShuf
import Derived.Laws.CopyOwn
import Derived.Lib.SliceRun
/-! The contract of zzs1768acopy. -/
namespace Go.Proofs.Ybulkajpa.Copy
open Go.RowKit Go.Proofs.Ybulkajpa.Cha Go.Proofs.Ybulkajpa.Stream Go.Proofs.Ybulkajpa.Mem Go.Proofs.Ybulkajpa.Next Go.Proofs.Ybulkajpa.Bel Go.Proofs.Ybulkajpa.Shuf

theorem info3 : (Yba.prog.info? 3).map (fun i => (i.zero, i.size, i.bytes)) = some (some (.int .i64 0), 1, 8) := by kernel_rfl
theorem size3 : (Yba.prog.info? 3).map (·.size) = some 1 := by kernel_rfl

theorem rw_block {w : World} {g : Nat} {l : List Int} (h : w.heap[g]? = some (.cells (l.map (Value.int .i64)).toArray 3 (0, 0))) : RW w g l := by
  refine ⟨fun j hj => ?_, fun j => by simp [World.frozen?, h]⟩
  simp [World.cell?, h, List.getElem?_eq_getElem hj]

set_option maxHeartbeats 400000 in
theorem copy_nil (w : World) (len cap : Nat) : Calls Yba.prog 8 #[.slice none len cap] w fun e w' => e = .returned (.slice none 0 0) ∧ w' = w := by
  have hq : ∀ (w : World) (a : Option Addr) (n c n' c' : Nat), (binOp .eql 22 (.slice a n c) (.slice none n' c')).run Yba.prog w = .ok (.bool a.isNone) w := fun w a n c n' c' => Lib.run_eql_slice_nil w _ _ a n c n' c' Yba.underlying22
  go_enter Yba.func8, Yba.ntmps8
  go_wp2
  go_ret
  exact ⟨rfl, rfl⟩

set_option maxHeartbeats 800000 in
theorem copy_some (w : World) (x : Addr) (cap : Nat) (l : List Int) (hl : l.length ≤ 1024) (hc : ∀ j u, (l.map (Value.int .i64))[j]? = some u → w.cell? (x.add j) = some u) :
    Calls Yba.prog 8 #[.slice (some x) l.length cap] w fun e w' => ∃ g, e = .returned (.slice (some ⟨g, 0, none⟩) l.length l.length) ∧ RW w' g l ∧ w.heap.size ≤ g ∧ g < w'.heap.size ∧ Kept w w' [] := by
  obtain ⟨i0, hi, hz0, hz1, hz2⟩ := info_parts info3
  have hq : ∀ (w : World) (a : Option Addr) (n c n' c' : Nat), (binOp .eql 22 (.slice a n c) (.slice none n' c')).run Yba.prog w = .ok (.bool a.isNone) w := fun w a n c n' c' => Lib.run_eql_slice_nil w _ _ a n c n' c' Yba.underlying22
  have HC := hide hc
  clear hc
  go_enter Yba.func8, Yba.ntmps8
  go_wp2_with (at_make; refine wpList_make_full _ rfl (.tmp 7) (.tmp 7) 22 rfl w.heap.size 3 i0 (.int .i64 0) 1 Yba.underlying22 hi hz0 hz1 .i64 .i64 _ _ l.length rfl rfl ?c1 ?c2 ?c3 ?c4 ?c5 ?_)
  case c1 => first | rfl | simp
  case c2 => first | rfl | simp
  case c3 => rw [hz2]; omega
  case c4 => unfold maxLen; omega
  case c5 => exact Nat.le_refl _
  intro w1 hown hgrow
  obtain ⟨cur, hcur, hcs⟩ : ∃ cur, w1.heap[w.heap.size]? = some (.cells cur 3 (0, 0)) ∧ cur.size = l.length := by
    rcases hown.2 with ⟨e, _⟩ | ⟨g, c, cur, e, _, hg, _, _, hs, _⟩
    · cases e
    · simp only [Value.slice.injEq, Option.some.injEq, Addr.mk.injEq] at e
      obtain ⟨⟨rfl, _⟩, _, rfl⟩ := e
      exact ⟨cur, hg, by omega⟩
  have k1 : Kept w w1 [] := ⟨hgrow.os, hgrow.tape, hgrow.output, hgrow.size, fun k hk _ => hgrow.block k hk (by simp)⟩
  have HC1 : Hid (∀ j u, (l.map (Value.int .i64))[j]? = some u → w1.cell? (x.add j) = some u) := fun j u hu => k1.cell (HC.out j u hu) (by simp)
  have hlt : w.heap.size < w1.heap.size := lt_of_block hcur
  clear hown hgrow
  have hrow : (cur.toList.take 0 ++ l.map (Value.int .i64) ++ cur.toList.drop (0 + (l.map (Value.int .i64)).length)).toArray = (l.map (Value.int .i64)).toArray := by
    rw [List.take_zero, List.nil_append, List.drop_eq_nil_of_le (by simp; omega), List.append_nil]
  have hrun : ∀ ty, (Builtin.copy_ #[22, 22] ty #[.slice (some ⟨w.heap.size, 0, none⟩) l.length l.length, .slice (some x) l.length cap]).run Yba.prog w1 = .ok (.int .i64 (l.length : Int)) (w1.setRow w.heap.size (l.map (Value.int .i64)).toArray) := fun ty => by
    have := run_copy_row (P := Yba.prog) w1 22 22 ty 3 w.heap.size 0 l.length l.length x l.length cap cur 3 (l.map (Value.int .i64)) Yba.underlying22 size3 hcur (by simp) HC1.out (by simp; omega) (by intro v hv; simp only [List.mem_map] at hv; obtain ⟨z, _, rfl⟩ := hv; rfl)
    rw [hrow] at this
    rw [this]
    simp [goInt]
  have HF : Hid (RW (w1.setRow w.heap.size (l.map (Value.int .i64)).toArray) w.heap.size l) := rw_block (setRow_heap w1 w.heap.size cur _ 3 _ hcur)
  have HK : Hid (Kept w (w1.setRow w.heap.size (l.map (Value.int .i64)).toArray) []) := ⟨k1.os, k1.tape, k1.output, by have := k1.size; simpa [World.setRow] using this, fun k hk hn => (setRow_other w1 w.heap.size k _ (by omega)).trans (k1.block k hk hn)⟩
  clear hrow HC HC1 hcs
  go_wp2
  go_ret
  exact ⟨w.heap.size, rfl, HF.out, Nat.le_refl _, by simpa [World.setRow] using hlt, HK.out⟩
end Go.Proofs.Ybulkajpa.Copy
